import JvmDerived
import JvmDerived.Pilot.@@N@@Statement
import JvmDerived.Pilot.@@N@@Code
set_option linter.unusedVariables false
set_option linter.unusedSimpArgs false
@@BLOCK:LamKit.lean.txt@@
namespace Jvm.Pilot.@@N@@
open Jvm Jvm.ClassFile Sem Op Lib Jvm.Free Jvm.Stand Jvm.LawKit Jvm.RoadKit Bundle Jvm.Pilot.@@N@@.Jvm.D
def own_N2 : String := "com/example/kalchas/kalchas/propositional/HornClausesNewVariablePinLaw"
def own_N1 : String := "com/example/kalchas/kalchas/propositional/HornClauses"
def own_N0 : String := "com/example/kalchas/kalchas/propositional/HornClauses$Trail"
theorem own_w0 {Z : State} {a0 : Array Value} (hw : ∀ d ∈ tables_1, d.before a0 Z = true) : (Jvm.Cond.classLink "com/example/kalchas/kalchas/propositional/HornClausesNewVariablePinLaw" (7 : Nat) "com/example/kalchas/kalchas/propositional/HornClauses").before a0 Z = true := hw _ (List.mem_of_getElem? (i := 0) rfl)
theorem own_w1 {Z : State} {a0 : Array Value} (hw : ∀ d ∈ tables_1, d.before a0 Z = true) : (Jvm.Cond.instantiable "com/example/kalchas/kalchas/propositional/HornClauses" (9 : Nat)).before a0 Z = true := hw _ (List.mem_of_getElem? (i := 1) rfl)
theorem own_w2 {Z : State} {a0 : Array Value} (hw : ∀ d ∈ tables_1, d.before a0 Z = true) : (Jvm.Cond.initialized "com/example/kalchas/kalchas/propositional/HornClauses").before a0 Z = true := hw _ (List.mem_of_getElem? (i := 2) rfl)
theorem own_w11 {Z : State} {a0 : Array Value} (hw : ∀ d ∈ tables_1, d.before a0 Z = true) : (Jvm.Cond.lays "com/example/kalchas/kalchas/propositional/HornClauses" "com/example/kalchas/kalchas/propositional/HornClauses" "heads" "[I").before a0 Z = true := hw _ (List.mem_of_getElem? (i := 11) rfl)
theorem own_w12 {Z : State} {a0 : Array Value} (hw : ∀ d ∈ tables_1, d.before a0 Z = true) : (Jvm.Cond.fieldLink "com/example/kalchas/kalchas/propositional/HornClauses" (13 : Nat) "com/example/kalchas/kalchas/propositional/HornClauses" "bodyStarts" "[I").before a0 Z = true := hw _ (List.mem_of_getElem? (i := 12) rfl)
theorem own_w13 {Z : State} {a0 : Array Value} (hw : ∀ d ∈ tables_1, d.before a0 Z = true) : (Jvm.Cond.lays "com/example/kalchas/kalchas/propositional/HornClauses" "com/example/kalchas/kalchas/propositional/HornClauses" "bodyStarts" "[I").before a0 Z = true := hw _ (List.mem_of_getElem? (i := 13) rfl)
theorem own_w15 {Z : State} {a0 : Array Value} (hw : ∀ d ∈ tables_1, d.before a0 Z = true) : (Jvm.Cond.lays "com/example/kalchas/kalchas/propositional/HornClauses" "com/example/kalchas/kalchas/propositional/HornClauses" "bodies" "[I").before a0 Z = true := hw _ (List.mem_of_getElem? (i := 15) rfl)
theorem own_w22 {Z : State} {a0 : Array Value} (hw : ∀ d ∈ tables_1, d.before a0 Z = true) : (Jvm.Cond.lays "com/example/kalchas/kalchas/propositional/HornClauses" "com/example/kalchas/kalchas/propositional/HornClauses" "occurrences" "[I").before a0 Z = true := hw _ (List.mem_of_getElem? (i := 22) rfl)
theorem own_w23 {Z : State} {a0 : Array Value} (hw : ∀ d ∈ tables_1, d.before a0 Z = true) : (Jvm.Cond.fieldLink "com/example/kalchas/kalchas/propositional/HornClauses" (22 : Nat) "com/example/kalchas/kalchas/propositional/HornClauses" "variableCount" "I").before a0 Z = true := hw _ (List.mem_of_getElem? (i := 23) rfl)
theorem own_w24 {Z : State} {a0 : Array Value} (hw : ∀ d ∈ tables_1, d.before a0 Z = true) : (Jvm.Cond.lays "com/example/kalchas/kalchas/propositional/HornClauses" "com/example/kalchas/kalchas/propositional/HornClauses" "variableCount" "I").before a0 Z = true := hw _ (List.mem_of_getElem? (i := 24) rfl)
theorem own_w33 {Z : State} {a0 : Array Value} (hw : ∀ d ∈ tables_1, d.before a0 Z = true) : (Jvm.Cond.selects "com/example/kalchas/kalchas/propositional/HornClauses" ({ cls := "com/example/kalchas/kalchas/propositional/HornClauses", name := "checkVariable", desc := "(I)V" } : Jvm.MethodName) ({ cls := "com/example/kalchas/kalchas/propositional/HornClauses", name := "checkVariable", desc := "(I)V" } : Jvm.MethodName)).before a0 Z = true := hw _ (List.mem_of_getElem? (i := 33) rfl)
theorem own_w46 {Z : State} {a0 : Array Value} (hw : ∀ d ∈ tables_1, d.before a0 Z = true) : (Jvm.Cond.fieldLink "com/example/kalchas/kalchas/propositional/HornClauses" (30 : Nat) "com/example/kalchas/kalchas/propositional/HornClauses" "clauseCount" "I").before a0 Z = true := hw _ (List.mem_of_getElem? (i := 46) rfl)
theorem own_w47 {Z : State} {a0 : Array Value} (hw : ∀ d ∈ tables_1, d.before a0 Z = true) : (Jvm.Cond.lays "com/example/kalchas/kalchas/propositional/HornClauses" "com/example/kalchas/kalchas/propositional/HornClauses" "clauseCount" "I").before a0 Z = true := hw _ (List.mem_of_getElem? (i := 47) rfl)
theorem own_w72 {Z : State} {a0 : Array Value} (hw : ∀ d ∈ tables_1, d.before a0 Z = true) : (Jvm.Cond.initialized "java/util/Arrays").before a0 Z = true := hw _ (List.mem_of_getElem? (i := 72) rfl)
theorem own_w101 {Z : State} {a0 : Array Value} (hw : ∀ d ∈ tables_1, d.before a0 Z = true) : (Jvm.Cond.initialized "java/lang/Math").before a0 Z = true := hw _ (List.mem_of_getElem? (i := 101) rfl)
theorem own_w105 {Z : State} {a0 : Array Value} (hw : ∀ d ∈ tables_1, d.before a0 Z = true) : (Jvm.Cond.lays "com/example/kalchas/kalchas/propositional/HornClauses" "com/example/kalchas/kalchas/propositional/HornClauses" "derivationStarts" "[I").before a0 Z = true := hw _ (List.mem_of_getElem? (i := 105) rfl)
theorem own_w107 {Z : State} {a0 : Array Value} (hw : ∀ d ∈ tables_1, d.before a0 Z = true) : (Jvm.Cond.lays "com/example/kalchas/kalchas/propositional/HornClauses" "com/example/kalchas/kalchas/propositional/HornClauses" "derivations" "[I").before a0 Z = true := hw _ (List.mem_of_getElem? (i := 107) rfl)
theorem own_w108 {Z : State} {a0 : Array Value} (hw : ∀ d ∈ tables_1, d.before a0 Z = true) : (Jvm.Cond.fieldLink "com/example/kalchas/kalchas/propositional/HornClauses" (175 : Nat) "com/example/kalchas/kalchas/propositional/HornClauses" "occurrenceStarts" "[I").before a0 Z = true := hw _ (List.mem_of_getElem? (i := 108) rfl)
theorem own_w109 {Z : State} {a0 : Array Value} (hw : ∀ d ∈ tables_1, d.before a0 Z = true) : (Jvm.Cond.lays "com/example/kalchas/kalchas/propositional/HornClauses" "com/example/kalchas/kalchas/propositional/HornClauses" "occurrenceStarts" "[I").before a0 Z = true := hw _ (List.mem_of_getElem? (i := 109) rfl)
theorem own_w111 {Z : State} {a0 : Array Value} (hw : ∀ d ∈ tables_1, d.before a0 Z = true) : (Jvm.Cond.instantiable "com/example/kalchas/kalchas/propositional/HornClauses$Trail" (4 : Nat)).before a0 Z = true := hw _ (List.mem_of_getElem? (i := 111) rfl)
theorem own_w112 {Z : State} {a0 : Array Value} (hw : ∀ d ∈ tables_1, d.before a0 Z = true) : (Jvm.Cond.initialized "com/example/kalchas/kalchas/propositional/HornClauses$Trail").before a0 Z = true := hw _ (List.mem_of_getElem? (i := 112) rfl)
theorem own_w118 {Z : State} {a0 : Array Value} (hw : ∀ d ∈ tables_1, d.before a0 Z = true) : (Jvm.Cond.fieldLink "com/example/kalchas/kalchas/propositional/HornClauses$Trail" (7 : Nat) "com/example/kalchas/kalchas/propositional/HornClauses$Trail" "values" "[Z").before a0 Z = true := hw _ (List.mem_of_getElem? (i := 118) rfl)
theorem own_w119 {Z : State} {a0 : Array Value} (hw : ∀ d ∈ tables_1, d.before a0 Z = true) : (Jvm.Cond.laysFinal "com/example/kalchas/kalchas/propositional/HornClauses$Trail" "com/example/kalchas/kalchas/propositional/HornClauses$Trail" "values" "[Z").before a0 Z = true := hw _ (List.mem_of_getElem? (i := 119) rfl)
theorem own_w121 {Z : State} {a0 : Array Value} (hw : ∀ d ∈ tables_1, d.before a0 Z = true) : (Jvm.Cond.laysFinal "com/example/kalchas/kalchas/propositional/HornClauses$Trail" "com/example/kalchas/kalchas/propositional/HornClauses$Trail" "reasons" "[I").before a0 Z = true := hw _ (List.mem_of_getElem? (i := 121) rfl)
theorem own_w122 {Z : State} {a0 : Array Value} (hw : ∀ d ∈ tables_1, d.before a0 Z = true) : (Jvm.Cond.fieldLink "com/example/kalchas/kalchas/propositional/HornClauses$Trail" (17 : Nat) "com/example/kalchas/kalchas/propositional/HornClauses$Trail" "order" "[I").before a0 Z = true := hw _ (List.mem_of_getElem? (i := 122) rfl)
theorem own_w123 {Z : State} {a0 : Array Value} (hw : ∀ d ∈ tables_1, d.before a0 Z = true) : (Jvm.Cond.laysFinal "com/example/kalchas/kalchas/propositional/HornClauses$Trail" "com/example/kalchas/kalchas/propositional/HornClauses$Trail" "order" "[I").before a0 Z = true := hw _ (List.mem_of_getElem? (i := 123) rfl)
theorem own_w129 {Z : State} {a0 : Array Value} (hw : ∀ d ∈ tables_1, d.before a0 Z = true) : (Jvm.Cond.fieldLink "com/example/kalchas/kalchas/propositional/HornClauses$Trail" (20 : Nat) "com/example/kalchas/kalchas/propositional/HornClauses$Trail" "size" "I").before a0 Z = true := hw _ (List.mem_of_getElem? (i := 129) rfl)
theorem own_w130 {Z : State} {a0 : Array Value} (hw : ∀ d ∈ tables_1, d.before a0 Z = true) : (Jvm.Cond.lays "com/example/kalchas/kalchas/propositional/HornClauses$Trail" "com/example/kalchas/kalchas/propositional/HornClauses$Trail" "size" "I").before a0 Z = true := hw _ (List.mem_of_getElem? (i := 130) rfl)
theorem own_w134 {Z : State} {a0 : Array Value} (hw : ∀ d ∈ tables_1, d.before a0 Z = true) : (Jvm.Cond.selects "com/example/kalchas/kalchas/propositional/HornClauses$Trail" ({ cls := "com/example/kalchas/kalchas/propositional/HornClauses$Trail", name := "isTrue", desc := "(I)Z" } : Jvm.MethodName) ({ cls := "com/example/kalchas/kalchas/propositional/HornClauses$Trail", name := "isTrue", desc := "(I)Z" } : Jvm.MethodName)).before a0 Z = true := hw _ (List.mem_of_getElem? (i := 134) rfl)
def own_Go (tb : Tables) (e : Env) (below : List Frame) (P : State → Outcome → Prop) (T : State) (g : JFrame) : Prop := ∃ t o, Steps tb e below (T.setTop g) t ∧ P t o
theorem own_go {tb : Tables} {e : Env} {below : List Frame} {P : State → Outcome → Prop} {T T' : State} {g g' : JFrame} (k : ∀ target, Steps tb e below (T'.setTop g') target → Steps tb e below (T.setTop g) target) (h : own_Go tb e below P T' g') : own_Go tb e below P T g := by
  obtain ⟨t, o, a, b⟩ := h
  exact ⟨t, o, k t a, b⟩
theorem own_cast {P Q : Prop} (h : P = Q) (p : P) : Q := h ▸ p
def own_upd (f : Nat → Value) (k : Nat) (v : Value) : Nat → Value := fun i => if i = k then v else f i
/-- an array of length z at a, its element i being f i -/
def own_AV (Z : State) (h : Heap) (a : Addr) (ty : FieldType) (z : Int32) (f : Nat → Value) : Prop := ¬ z < 0 ∧ ∃ c : Cell, Arr Z h a c ty ∧ c.slots.size = z.toNatClampNeg ∧ ∀ i, i < c.slots.size → c.slots[i]? = some (f i)
section
variable {Z : State} {h h' : Heap} {a b : Addr} {ty : FieldType} {z j : Int32} {f : Nat → Value} {v w : Value} {sl k : Nat} {ws : List Addr} {cA : ClassId}
theorem own_AV.lt (F : own_AV Z h a ty z f) : a < h.size := by obtain ⟨_, c, A, -⟩ := F; exact A.lt
theorem own_AV.ext (F : own_AV Z h a ty z f) (E : Ext h h') : own_AV Z h' a ty z f := by obtain ⟨q, c, A, r⟩ := F; exact ⟨q, c, A.ext E, r⟩
theorem own_AV.other (F : own_AV Z h b ty z f) (W : Wr h h' a sl v) (q : b ≠ a) : own_AV Z h' b ty z f := by obtain ⟨q1, c, A, r⟩ := F; exact ⟨q1, c, A.other W q, r⟩
theorem own_AV.keep (F : own_AV Z h a ty z f) (K : Keep h h' ws) (q : a ∉ ws) : own_AV Z h' a ty z f := by obtain ⟨q1, c, A, r⟩ := F; exact ⟨q1, c, ⟨K.2.1 a c A.1 q, A.2⟩, r⟩
theorem own_AV.new (A : Arr Z h a (newA cA ty z) ty) (q : ¬ z < 0) : own_AV Z h a ty z (fun _ => defaultValue ty) :=
  ⟨q, _, A, sz_new _ _ _, fun i hi => by
    rw [sz_new] at hi
    simp [newA, hi]⟩
theorem own_AV.set (F : own_AV Z h a ty z f) (W : Wr h h' a j.toNatClampNeg v) (hk : j.toNatClampNeg = k) : own_AV Z h' a ty z (own_upd f k v) := by
  obtain ⟨q, c, A, s, t⟩ := F
  subst hk
  refine ⟨q, _, A.same W, by rw [sz_set]; exact s, fun i hi => ?_⟩
  rw [sz_set] at hi
  by_cases e : i = j.toNatClampNeg
  · subst e; simp [own_upd, Cell.setSlot, hi]
  · simp only [own_upd, if_neg e, Cell.setSlot]
    rw [Array.getElem?_setIfInBounds_ne (Ne.symm e)]; exact t i hi
theorem own_at {c : Cell} (t : ∀ i, i < c.slots.size → c.slots[i]? = some (f i)) (s : c.slots.size = z.toNatClampNeg) (hin : ¬ (j < 0 ∨ c.slots.size ≤ j.toNatClampNeg)) (hk : j.toNatClampNeg = k) (hv : f k = v) : c.slots[j.toNatClampNeg]? = some v := by
  rw [t _ (Nat.lt_of_not_le fun q => hin (Or.inr q)), hk, hv]
theorem own_sta_keep {C n d : String} (F : Sta Z h C n d w) (K : Keep h h' ws) (q : ∀ x ∈ ws, ∀ c : Cell, h[x]? = some c → c.vm.isStatics = false) : Sta Z h' C n d w := by
  obtain ⟨cf, i, k, f, st, cell, h1, h2, h3, h4, h5, h6, h7⟩ := F
  exact ⟨cf, i, k, f, st, cell, h1, h2, h3, h4, K.2.1 st cell h5 (fun m => by rw [q st m cell h5] at h6; cases h6), h6, h7⟩
theorem own_exa_plain {C : String} (F : Exa Z h a C) : ∀ c : Cell, h[a]? = some c → c.vm.isStatics = false := fun c hc => by
  obtain ⟨c1, k, h1, -, -, h4, -⟩ := F; cases h1.symm.trans hc; exact h4
theorem own_AV.plain (F : own_AV Z h a ty z f) : ∀ c : Cell, h[a]? = some c → c.vm.isStatics = false := fun c hc => by
  obtain ⟨_, c1, A, -⟩ := F; cases A.1.symm.trans hc; exact A.plain
end
theorem own_narb {x : Int32} (h : x = 0 ∨ x = 1) : nar .boolean x = x := by rcases h with rfl | rfl <;> rfl
theorem own_exa_ref {args : Array Value} {s : State} {t : Term} {C : String} (hx : (Jvm.Cond.exactly t C).value args s none s [] = some true) : ∃ a, t.eval args s none [] s = some (.ref a) ∧ Exa s s.heap a C := by
  obtain ⟨a', c', cell, k, e1, -⟩ := Cond.exactly_spec (Cond.before_iff.mpr hx)
  exact ⟨a', e1, Exa.start e1 hx⟩
theorem own_eq_int {args : Array Value} {s : State} {t : Term} {k : Int32} (h : (Jvm.Cond.eq t (Jvm.Term.int k)).value args s none s [] = some true) : t.eval args s none [] s = some (.int k) := by
  cases hv : t.eval args s none [] s with
  | none => simp [Cond.value, hv] at h
  | some v => cases v <;> simp [Cond.value, hv, Term.eval] at h <;> simp [h]
theorem own_fld_int {args : Array Value} {s : State} {t : Term} {C n d : String} {a : Addr} {k : Int32} (ev : t.eval args s none [] s = some (.ref a)) (h : (Jvm.Cond.eq (Jvm.Term.field t C n d) (Jvm.Term.int k)).value args s none s [] = some true) : Fld s s.heap a C n d (.int k) :=
  Fld.start ((fld_at ev).symm.trans (own_eq_int h))
theorem own_nar_c (x : Int32) : nar .char (x.toUInt32.toUInt16.toUInt32.toInt32) = x.toUInt32.toUInt16.toUInt32.toInt32 := Value.int.inj (Jvm.Free.XT.narrow_c x)
theorem own_nar_b (x : Int32) : nar .byte (x.toInt8.toInt32) = x.toInt8.toInt32 := Value.int.inj (Jvm.Free.XT.narrow_b x)
theorem own_NSroot {Z : State} {a0 : Array Value} {O K : String} {n : Nat} (w : (Jvm.Cond.noSuperclass O).before a0 Z = true) (wk : (Jvm.Cond.instantiable K n).before a0 Z = true) (hn : O ≠ K) : NS Z O K := by
  obtain ⟨c, k, h1, h2, h3, -, -⟩ := Cond.noSuperclass_spec w
  obtain ⟨t, kt, g1, -⟩ := Cond.instantiable_spec wk
  have ne := ids_ne h1 g1 hn
  refine ⟨c, t, h1, g1, fun fuel => ?_⟩
  cases fuel with
  | zero => rfl
  | succ f => simp [Vm.isSubclassAux, ne, h2, h3]
theorem own_NSno {Z : State} {a0 : Array Value} {C S K : String} {m : Nat} (w : (Jvm.Cond.superclass C S).before a0 Z = true) (wk : (Jvm.Cond.instantiable K m).before a0 Z = true) (n : NS Z C K) (hn : C ≠ K) : ∃ c t, Z.vm.findClass C = some c ∧ Z.vm.findClass K = some t ∧ Z.vm.assignable c t = false := by
  obtain ⟨c, t, h0, g0, n3⟩ := n
  obtain ⟨p, k, kp, h1, h2, h3, h4, h5, -, h7⟩ := Cond.superclass_spec h0 w
  obtain ⟨t', k', g1, g2, g5, g7, -⟩ := Cond.instantiable_spec wk
  cases g0.symm.trans g1
  have g8 : k'.isInterface = false := by
    cases hi : k'.isInterface <;> simp [hi] at g7 ⊢
  have ne := ids_ne h0 g0 hn
  refine ⟨c, t, h0, g0, ?_⟩
  show Z.vm.assignableAux (255 + 1) c t = false
  simp [Vm.assignableAux, ne, h2, g2, h5, g5, g8, Vm.isSubclass, n3]
theorem own_monoW {s t : State} {o : Outcome} {L : List Loc} {k n k' n' : Nat} (h : ReturnedEndW s o t L k n) (hk : k ≤ k') (hn : n ≤ n') : ReturnedEndW s o t L k' n' := ⟨h.1, h.2.1, h.2.2.1, h.2.2.2.mono hk hn⟩
theorem own_ldcSL {p : Program} {l : Launch} {e : Env} {R : Room} {s : State} {vm0 : Vm} {m : MethodId} {args : Array Value} {below : List Frame} {meth : Method} {c : Code} {T : State} {locs : List Loc} {cells slots : Nat} {Z : State} {a0 : Array Value} {h : Heap}
    (X : Stand p l e R (s.setVm vm0) m args below meth c T locs cells slots) (hx : p.tables.exec = Jvm.exec) (hZ : Z.Warmed39 vm0) {own text : String} {index : Nat} (hown : vm0.findClass own = some m.cls) (w : (Jvm.Cond.stringLink own index text).before a0 Z = true) (wS : ∀ a ∈ Bundle.stringAtoms, a.before a0 Z = true)
    (eT : T.heap = h) {k0 : Nat} (hS : s.Since vm0 k0) (hk : k0 ≤ h.size) {g : JFrame} (hg : g.method = m) (hd : decode c.code g.pc = .ok (.ldc index, 2)) {n : Nat} (hn : 4 * text.toList.length ≤ n) (hbig : n ≤ 536870912) (hc : cells + 2 ≤ R.cells) (hl : slots + (n + 4) ≤ R.slots) :
    ∃ (a : Addr) (T' : State) (h' : Heap) (k1 : Nat), Stand p l e R (s.setVm T'.vm) m args below meth c T' locs (cells + 2) (slots + (n + 4)) ∧ T'.heap = h' ∧ Ext h h' ∧ s.Since T'.vm k1 ∧ k1 ≤ h'.size ∧ Z.Warmed39 (s.setVm T'.vm).vm ∧ (s.setVm T'.vm).vm.findClass own = some m.cls ∧ Lit (s.setVm T'.vm) own index a ∧ (s.setVm vm0).Warmed39 T'.vm ∧
      ∀ target, Steps p.tables e below (T'.setTop { g with pc := g.pc + 2, stack := .ref a :: g.stack }) target → Steps p.tables e below (T.setTop g) target := by
  have wS' : ∀ d ∈ Bundle.stringAtoms, d.before args (s.setVm vm0) = true := fun d hd => by
    have q := wS d hd
    simp only [Bundle.stringAtoms, List.mem_cons, List.not_mem_nil, or_false] at hd
    rcases hd with rfl | rfl | rfl | rfl | rfl | rfl | rfl
    · exact mv (s := s.setVm vm0) hZ q
    · exact mv (s := s.setVm vm0) hZ q
    · exact mvA (s := s.setVm vm0) hZ q
    · exact mv (s := s.setVm vm0) hZ q
    · exact mv (s := s.setVm vm0) hZ q
    · exact mv (s := s.setVm vm0) hZ q
    · exact mv (s := s.setVm vm0) hZ q
  obtain ⟨a, T', X', hS', ⟨kk, hkk, hrr⟩, hb, -, st⟩ := X.ldcStringCold hx (own := own) hown (mvS hZ w) wS' hg hd hn hbig hc hl
  subst eT
  have hf : T'.vm.findClass own = some m.cls := by rw [hS'.1.alike.findClass]; exact hown
  exact ⟨a, T', _, _, X', rfl, ext_of hb, hS.trans hS' (Nat.le_trans hk (ext_of hb).1), Nat.le_refl _, State.Warmed39.trans (t := s.setVm vm0) hZ hS'.1, hf, by simp [Lit, State.resolvedAt?, hf, hkk, hrr], hS'.1, st⟩
theorem own_selfsel {Z s : State} {a0 args : Array Value} {y : MethodName} {n : Nat} (hZ : Z.Warmed39 s.vm) (wi : (Jvm.Cond.instantiable y.cls n).before a0 Z = true) (wm : (Jvm.Cond.instanceMethod y).before a0 Z = true) (wp : (Jvm.Cond.privateMethod y).before a0 Z = true) (hy : y.cls ≠ "java/lang/invoke/MethodHandle" ∧ y.cls ≠ "java/lang/invoke/VarHandle") : (Jvm.Cond.selects y.cls y y).before args s = true := by
  obtain ⟨c, k, h1, h2, -, h4, -⟩ := Cond.instantiable_spec (mvT (args := args) hZ wi)
  have g8 : k.isInterface = false := by
    cases hi : k.isInterface <;> simp [hi] at h4 ⊢
  exact selects_self_of_private h1 h2 g8 (Cond.privateMethod_at (mvP hZ wp (args := #[]))) (mvT hZ wm) hy
theorem own_addeq {k a b m n : Nat} (h : k = a + b) (h1 : a = m) (h2 : m + b = n) : k = n := by subst h1; exact h.trans h2
theorem own_lt {a b : Nat} (h : a < b) : a < b := h
theorem own_ne {a b : Nat} (h : a < b ∨ b < a) : a ≠ b := by omega
def own_lts : List Nat → Prop
  | a :: b :: r => a < b ∧ own_lts (b :: r)
  | _ => True

theorem own_pn0 : plainName own_N1 = true := by first | (simp [plainName, overriddenIn]; done) | decide +kernel
theorem own_pn1 : plainName "java/util/Arrays" = true := by first | (simp [plainName, overriddenIn]; done) | decide +kernel
theorem own_pn2 : plainName "java/util/Objects" = true := by first | (simp [plainName, overriddenIn]; done) | decide +kernel
theorem own_pn3 : plainName own_N0 = true := by first | (simp [plainName, overriddenIn]; done) | decide +kernel
theorem own_pn4 : plainName own_N2 = true := by first | (simp [plainName, overriddenIn]; done) | decide +kernel
theorem own_pd0 : parseMethodDescriptor "(Ljava/lang/String;II)V" = some ⟨[(.object "java/lang/String"), .int, .int], none⟩ := by decide +kernel
theorem own_pd1 : parseMethodDescriptor "()V" = some ⟨[], none⟩ := by decide +kernel
theorem own_pd2 : parseMethodDescriptor "()I" = some ⟨[], some .int⟩ := by decide +kernel
theorem own_pd3 : parseMethodDescriptor "(I)V" = some ⟨[.int], none⟩ := by decide +kernel
theorem own_pd4 : parseMethodDescriptor "(I[I)V" = some ⟨[.int, (.array .int)], none⟩ := by decide +kernel
theorem own_pd5 : parseMethodDescriptor "(III)V" = some ⟨[.int, .int, .int], none⟩ := by decide +kernel
theorem own_pd6 : parseMethodDescriptor "([IIII)V" = some ⟨[(.array .int), .int, .int, .int], none⟩ := by decide +kernel
theorem own_pd7 : parseMethodDescriptor "(Ljava/lang/Object;)Ljava/lang/Object;" = some ⟨[(.object "java/lang/Object")], some (.object "java/lang/Object")⟩ := by decide +kernel
theorem own_pd8 : parseMethodDescriptor "([ILjava/util/function/IntUnaryOperator;)V" = some ⟨[(.array .int), (.object "java/util/function/IntUnaryOperator")], none⟩ := by decide +kernel
theorem own_pd9 : parseMethodDescriptor "(II)I" = some ⟨[.int, .int], some .int⟩ := by decide +kernel
theorem own_pd10 : parseMethodDescriptor "([II)[I" = some ⟨[(.array .int), .int], some (.array .int)⟩ := by decide +kernel
theorem own_pd11 : parseMethodDescriptor "([I[II[I)[I" = some ⟨[(.array .int), (.array .int), .int, (.array .int)], some (.array .int)⟩ := by decide +kernel
theorem own_pd12 : parseMethodDescriptor "(II)V" = some ⟨[.int, .int], none⟩ := by decide +kernel
theorem own_pd13 : parseMethodDescriptor "(I)Z" = some ⟨[.int], some .boolean⟩ := by decide +kernel
theorem own_pd14 : parseMethodDescriptor "(I)I" = some ⟨[.int], some .int⟩ := by decide +kernel
theorem own_pd15 : parseMethodDescriptor "([II)Lcom/example/kalchas/kalchas/propositional/HornClauses$Trail;" = some ⟨[(.array .int), .int], some (.object own_N0)⟩ := by decide +kernel
theorem own_pd16 : parseMethodDescriptor "([II)Z" = some ⟨[(.array .int), .int], some .boolean⟩ := by decide +kernel
theorem own_wS {Z : State} {a0 : Array Value} (hw : ∀ d ∈ tables_1, d.before a0 Z = true) : ∀ a ∈ Bundle.stringAtoms, a.before a0 Z = true := fun d hd => by
  simp only [Bundle.stringAtoms, List.mem_cons, List.not_mem_nil, or_false] at hd
  rcases hd with rfl | rfl | rfl | rfl | rfl | rfl | rfl
  · exact hw _ (List.mem_of_getElem? (i := 36) rfl)
  · exact hw _ (List.mem_of_getElem? (i := 37) rfl)
  · exact hw _ (List.mem_of_getElem? (i := 38) rfl)
  · exact hw _ (List.mem_of_getElem? (i := 39) rfl)
  · exact hw _ (List.mem_of_getElem? (i := 40) rfl)
  · exact hw _ (List.mem_of_getElem? (i := 41) rfl)
  · exact hw _ (List.mem_of_getElem? (i := 42) rfl)
theorem own_updf {ty : FieldType} {f : Nat → Value} {k : Nat} {v : Value} (hf : ∀ i, fits ty (f i) = true) (hv : fits ty v = true) : ∀ i, fits ty (own_upd f k v i) = true := fun i => by
  unfold own_upd; split
  · exact hv
  · exact hf i
def own_cpf (f : Nat → Value) (sp : Nat) (g : Nat → Value) (dp nn : Nat) : Nat → Value := fun i => if dp ≤ i ∧ i < dp + nn then f (sp + (i - dp)) else g i
theorem own_cpff {ty : FieldType} {f g : Nat → Value} {sp dp nn : Nat} (hf : ∀ i, fits ty (f i) = true) (hg : ∀ i, fits ty (g i) = true) : ∀ i, fits ty (own_cpf f sp g dp nn i) = true := fun i => by
  unfold own_cpf; split
  · exact hf _
  · exact hg i
theorem own_AV.arv {Z : State} {h : Heap} {a : Addr} {ty : FieldType} {z : Int32} {f : Nat → Value} {d : Value} (F : own_AV Z h a ty z f) (hf : ∀ i, fits ty (f i) = true) : ∃ k, Arv Z h a k ty z ((List.range z.toNatClampNeg).map f) d := by
  obtain ⟨q, c, A, s, t⟩ := F
  refine ⟨c.cls, c, A, rfl, s, q, fun i hi => ?_, fun i hi => ?_⟩
  · rw [t i hi]; rw [s] at hi; simp [List.getD, hi]
  · rw [s] at hi; simp [List.getD, hi, hf i]
theorem own_AV.of_arv {Z : State} {h : Heap} {a : Addr} {k : ClassId} {ty : FieldType} {z : Int32} {vs : List Value} {d : Value} {f : Nat → Value} (F : Arv Z h a k ty z vs d) (hf : ∀ i, i < z.toNatClampNeg → vs.getD i d = f i) : own_AV Z h a ty z f := by
  obtain ⟨c, A, -, s, q, H, -⟩ := F
  exact ⟨q, c, A, s, fun i hi => by rw [H i hi, hf i (by rw [← s]; exact hi)]⟩
section
variable {p : Program} {l : Launch} {e : Env} {R : Room} {s : State} {m : MethodId} {args : Array Value} {below : List Frame} {meth : Method} {c : Code} {T : State} {locs : List Loc} {cells slots : Nat} {Z : State} {h : Heap} {a b : Addr}
theorem own_cp (X : Stand p l e R s m args below meth c T locs cells slots) (hx : p.tables.exec = Jvm.exec) (hZ : Z.Warmed39 s.vm) {a0 : Array Value} {own : String} {index : Nat} (hown : s.vm.findClass own = some m.cls)
    (w1 : (Jvm.Cond.methodLink own index Jvm.Stand.acN).before a0 Z = true) (w2 : (Jvm.Cond.native Jvm.Stand.acN).before a0 Z = true) (w3 : (Jvm.Cond.static Jvm.Stand.acN).before a0 Z = true) (w4 : (Jvm.Cond.initialized "java/lang/System").before a0 Z = true) (eT : T.heap = h)
    {z z' sp dp nn : Int32} {f g' : Nat → Value} (A : own_AV Z h a .int z f) (B : own_AV Z h b .int z' g') (fA : ∀ i, fits .int (f i) = true) (fB : ∀ i, fits .int (g' i) = true)
    (h1 : ¬ sp < 0) (h2 : ¬ dp < 0) (h3 : ¬ nn < 0) (h4 : sp.toNatClampNeg + nn.toNatClampNeg ≤ z.toNatClampNeg) (h5 : dp.toNatClampNeg + nn.toNatClampNeg ≤ z'.toNatClampNeg) {n0 : Nat} (N : Fr n0 locs) (ge : n0 ≤ b)
    {g : JFrame} (hg : g.method = m) (hsize : g.locals.size = c.maxLocals) {rest : List Value} (hs : g.stack = .int nn :: .int dp :: .ref b :: .int sp :: .ref a :: rest) (hd : decode c.code g.pc = .ok (.invokestatic index, 3))
    (hf : 1 ≤ R.frames) {W : Nat} (hW : 2 * g.monitorRoom + (rest.map fun v => v.category).sum ≤ W) (hlo : W + (nativeFrameWords "java/lang/System" "arraycopy" 5 + 11) ≤ R.locals) :
    ∃ T' h' L, Stand p l e R s m args below meth c T' L cells slots ∧ T'.heap = h' ∧ Fr n0 L ∧ Keep h h' [b] ∧ own_AV Z h' b .int z' (own_cpf f sp.toNatClampNeg g' dp.toNatClampNeg nn.toNatClampNeg) ∧
      ∀ target, Steps p.tables e below (T'.setTop { g with pc := g.pc + 3, stack := rest }) target → Steps p.tables e below (T.setTop g) target := by
  obtain ⟨k1, A'⟩ := A.arv (d := .int 0) fA
  obtain ⟨k2, B'⟩ := B.arv (d := .int 0) fB
  obtain ⟨T', h', L, X', e', N', K', V', st⟩ := cpA X hx hZ hown w1 w2 w3 w4 eT A' B' (Or.inl ⟨rfl, rfl⟩) h1 h2 h3 h4 h5 rfl (by simpa using h5) N ge hg hsize hs hd hf hW hlo
  refine ⟨T', h', L, X', e', N', K', own_AV.of_arv V' fun i hi => ?_, st⟩
  unfold own_cpf
  generalize sp.toNatClampNeg = sp' at *
  generalize dp.toNatClampNeg = dp' at *
  generalize nn.toNatClampNeg = nn' at *
  generalize z.toNatClampNeg = zz at *
  generalize z'.toNatClampNeg = zz' at *
  have hl : (List.map g' (List.range zz')).length = zz' := by simp
  simp only [List.getD]
  by_cases c1 : i < dp'
  · rw [if_neg (by omega)]
    rw [List.append_assoc, List.getElem?_append_left (by simp; omega)]
    simp [List.getElem?_take, c1, hi]
  · by_cases c2 : i < dp' + nn'
    · rw [if_pos (by omega)]
      rw [List.append_assoc, List.getElem?_append_right (by simp; omega), List.getElem?_append_left (by simp; omega)]
      have q1 : i - (List.take dp' (List.map g' (List.range zz'))).length = i - dp' := by simp; omega
      rw [q1]
      have q2 : i - dp' < nn' := by omega
      have q3 : sp' + (i - dp') < zz := by omega
      simp [q2, q3]
    · rw [if_neg (by omega)]
      rw [List.getElem?_append_right (by simp; omega)]
      have q1 : i - (List.take dp' (List.map g' (List.range zz')) ++ List.map (fun i => ((List.map f (List.range zz)).getD (sp' + i) (.int 0))) (List.range nn')).length = i - (dp' + nn') := by simp; omega
      simp only [List.getD] at q1
      rw [q1, List.getElem?_drop]
      have q2 : dp' + nn' + (i - (dp' + nn')) = i := by omega
      rw [q2]; simp [hi]
end
/-- the entry is resolved in these tables -/
def own_LP (Z : State) (own : String) (index : Nat) (vm : Vm) : Prop := ∃ a, Lit (Z.setVm vm) own index a
theorem own_backL {p : Program} {l : Launch} {e : Env} {R : Room} {s : State} {args : Array Value} {below : List Frame} {Z : State} {a0 : Array Value} {h : Heap} {y : MethodName} {bytes : ByteArray} {maxL : Nat} {ret : Option FieldType} {rm : Room} {len W : Nat} {as' : Array Value} {Q : Option Value → Heap → List Loc → Prop} {PV QV : Vm → Prop}
    (hM : MetFree l y (head1 [Jvm.Cond.code y bytes maxL ret] rm) (fun a U => a = as' ∧ Z.Warmed39 U.vm ∧ U.heap = h ∧ PV U.vm) (fun _ _ _ _ _ => True) (fun _ U o U' => ∃ v L, o = .returned v ∧ (Q v U'.heap L ∧ QV U'.vm) ∧ ReturnedEndW U o U' L rm.cells rm.slots))
    (hZ : Z.Warmed39 s.vm) (wc : (Jvm.Cond.code y bytes maxL ret).before a0 Z = true) (wz : (Jvm.Cond.initialized y.cls).before a0 Z = true) (hf : rm.frames + 1 ≤ R.frames) (hl : W + (maxL + 11) + rm.locals ≤ R.locals) (hPV : ∀ vm, s.Warmed39 vm → PV vm) :
    BackS l R p e below s args y len W (fun A a => a = as' ∧ A.U.heap = h ∧ A.cells + rm.cells ≤ R.cells ∧ A.slots + rm.slots ≤ R.slots)
      (fun A _ v B => ∃ L, (Q v B.U.heap L ∧ QV B.U.vm) ∧ B.locs = A.locs ++ L ∧ B.cells = A.cells + rm.cells ∧ B.slots = A.slots + rm.slots) := by
  refine BackS.of_freeW (bytes := bytes) (maxL := maxL) (ret := ret) (E := fun _ _ o t L k n => k = rm.cells ∧ n = rm.slots ∧ ∃ v, o = .returned v ∧ Q v t.heap L ∧ QV t.vm) hM hf hl ?_ ?_ (fun _ _ _ _ _ _ _ _ _ => trivial) ?_ ?_
  · intro m meth c A a Y hp
    have hU : Z.Warmed39 A.U.vm := wtrans hZ Y.warmed
    exact ⟨by show (Jvm.Cond.and _ .tt).before a A.U = true; rw [Cond.before_and, mv hU wc]; rfl, mv hU wc, mv hU wz, hp.2.2.1, hp.2.2.2⟩
  · intro m meth c A a g mk Y hp
    exact ⟨hp.1, wtrans hZ Y.warmed, hp.2.1, hPV _ Y.warmed.wide⟩
  · rintro a first o t ⟨v, L, h1, h2, h3⟩
    exact ⟨L, _, _, h3, rfl, rfl, v, h1, h2⟩
  · rintro m meth c A a g mk v t L k n Y hp - - ⟨rfl, rfl, v', h1, h2⟩
    cases h1
    exact ⟨L, h2, rfl, rfl, rfl⟩
theorem own_litW {s : State} {vm0 vm1 : Vm} {own : String} {index : Nat} {a : Addr} (L : Lit (s.setVm vm0) own index a) (hW : (s.setVm vm0).Warmed39 vm1) {u : State} : Lit (u.setVm vm1) own index a := State.resolvedAt?_warmed39 (s := s.setVm vm0) hW L
theorem own_AV.congr {Z : State} {h : Heap} {a : Addr} {ty : FieldType} {z : Int32} {f g : Nat → Value} (F : own_AV Z h a ty z f) (e : ∀ i, i < z.toNatClampNeg → f i = g i) : own_AV Z h a ty z g := by
  obtain ⟨q, c, A, s, t⟩ := F
  exact ⟨q, c, A, s, fun i hi => by rw [t i hi, e i (by rw [← s]; exact hi)]⟩
theorem own_cpf1 {f g : Nat → Value} {sp dp : Nat} : own_cpf f sp g dp 1 = own_upd g dp (f sp) := by
  funext i; unfold own_cpf own_upd
  by_cases h : i = dp
  · subst h; simp
  · rw [if_neg (by omega), if_neg h]
theorem own_cpfs {f g : Nat → Value} {sp dp n : Nat} : own_cpf f sp g dp (n + 1) = own_upd (own_cpf f sp g dp n) (dp + n) (f (sp + n)) := by
  funext i
  show (if dp ≤ i ∧ i < dp + (n + 1) then f (sp + (i - dp)) else g i) = if i = dp + n then f (sp + n) else (if dp ≤ i ∧ i < dp + n then f (sp + (i - dp)) else g i)
  by_cases h : i = dp + n
  · subst h; rw [if_pos (by omega), if_pos rfl]; congr 1; omega
  · rw [if_neg h]
    by_cases q : dp ≤ i ∧ i < dp + n
    · rw [if_pos (by omega), if_pos q]
    · rw [if_neg (by omega), if_neg q]
theorem own_cpf2 {f g : Nat → Value} {sp dp : Nat} : own_cpf f sp g dp 2 = own_upd (own_upd g dp (f sp)) (dp + 1) (f (sp + 1)) := by
  show own_cpf f sp g dp (1 + 1) = _
  rw [own_cpfs, own_cpf1]
theorem own_cpf3 {f g : Nat → Value} {sp dp : Nat} : own_cpf f sp g dp 3 = own_upd (own_upd (own_upd g dp (f sp)) (dp + 1) (f (sp + 1))) (dp + 2) (f (sp + 2)) := by
  show own_cpf f sp g dp (2 + 1) = _
  rw [own_cpfs, own_cpf2]
open Jvm.Lambda in
theorem own_made39 {s : State} {vm' : Vm} (hW : s.Warmed39 vm') {d c : ClassId} {σ : Lambda.Shape} (h : Lambda.isMade { classPath := fun _ => none } s.vm d σ c = true) : Lambda.isMade { classPath := fun _ => none } vm' d σ c = true := by
  have hA := hW.alike
  obtain ⟨dk, k, ok, tk, -, -, object, iface, t, -, -, -, -, h1, h2, -, -, h3, h4, h5, -, -, h6, h7, -⟩ := isMade_spec h
  obtain ⟨dk', g1, q1⟩ := hA.2.2 _ _ h1
  obtain ⟨k', g2, q2, -, hres, -⟩ := hW.2.2.2 _ _ h2
  obtain ⟨ok', g3, q3⟩ := hA.2.2 _ _ h5
  obtain ⟨tk', g4, q4⟩ := hA.2.2 _ _ h7
  have n1 : dk'.name = dk.name := by rw [q1]
  have n3 : ok'.instanceTypes = ok.instanceTypes := by rw [q3]
  have n4 : tk'.isInterface = tk.isInterface := by rw [q4]; rfl
  have key : ∀ x : List (Option Resolved × Nat), (x.all fun (x, i) => x.isNone || decide (k.resolved[i]? = some x)) = true → (x.all fun (x, i) => x.isNone || decide (k'.resolved[i]? = some x)) = true := fun x hx => by
    rw [List.all_eq_true] at hx ⊢
    rintro ⟨y, i⟩ hy
    have z := hx _ hy
    cases y with
    | none => rfl
    | some r =>
      simp only [Option.isNone_some, Bool.false_or, decide_eq_true_eq] at z ⊢
      rcases hres i with w | ⟨w, -⟩
      · rw [w]; exact z
      · rw [w] at z; cases z
  unfold isMade at h ⊢
  simp only [h1, h2, h3, h4, h5, h6, h7, g1, g2, g3, g4, hA.findClass, Option.bind_eq_bind, Option.bind_some, n1, n3, n4] at h ⊢
  have f0 : k'.name = k.name := by rw [q2]
  have f1 : k'.kind = k.kind := by rw [q2]
  have f2 : k'.accessFlags = k.accessFlags := by rw [q2]
  have f3 : k'.super = k.super := by rw [q2]
  have f4 : k'.interfaces = k.interfaces := by rw [q2]
  have f5 : k'.init = k.init := by rw [q2]
  have f6 : k'.loader = k.loader := by rw [q2]
  have f7 : k'.hidden = k.hidden := by rw [q2]
  have f8 : k'.linked = k.linked := by rw [q2]
  have f9 : k'.callSites = k.callSites := by rw [q2]
  have f10 : k'.invokers = k.invokers := by rw [q2]
  have f11 : k'.methods = k.methods := by rw [q2]
  have f12 : k'.fields = k.fields := by rw [q2]
  have f13 : k'.instanceTypes = k.instanceTypes := by rw [q2]
  have f14 : k'.staticTypes = k.staticTypes := by rw [q2]
  have f15 : k'.cf = k.cf := by rw [q2]
  simp only [f0, f1, f2, f3, f4, f5, f6, f7, f8, f9, f10, f11, f12, f13, f14, f15, methodIn_ask_alike hA, resolvedOf_alike hA, hA.selectMethod] at ⊢
  cases a1 : k.cf with
  | none => simp [a1] at h
  | some file =>
  cases a2 : σ.file dk.name with
  | none => simp [a1, a2] at h
  | some cf =>
  cases a3 : layoutFields cf ok.instanceTypes.size with
  | none => simp [a1, a2, a3] at h
  | some lay =>
  cases a4 : layoutMethods cf with
  | none => simp [a1, a2, a3, a4] at h
  | some methods =>
  simp only [a1, a2, a3, a4, Option.bind_some] at h ⊢
  cases a5 : ((methodIn t σ.implName σ.implDesc.toString tk.isInterface none).ask { classPath := fun _ => none } s.vm).1 with
  | error x => simp [a5] at h
  | ok target =>
  cases a6 : ((methodIn iface σ.name σ.sam.toString true none).ask { classPath := fun _ => none } s.vm).1 with
  | error x => simp [a5, a6] at h
  | ok found =>
  simp only [a5, a6, Option.pure_def, Option.getD_some, Bool.and_eq_true] at h ⊢
  exact ⟨⟨h.1.1, key _ h.1.2⟩, h.2⟩
/-- the function object of the site: it lies at a; Z's tables know its class -/
def own_LMx (x : MethodName) (pc index : Nat) (σ : Lambda.Shape) (Z : State) (h : Heap) (a : Addr) : Prop := ∃ (cK : ClassId) (cell : Cell), h[a]? = some cell ∧ cell.cls = cK ∧ cell.vm = .none ∧ Z.lambdaAt? x pc index σ = some (cK, some a)
section
variable {x : MethodName} {pc index : Nat} {σ : Lambda.Shape} {Z : State} {h h' : Heap} {a b : Addr} {ws : List Addr}
theorem own_LMx.lt (F : own_LMx x pc index σ Z h a) : a < h.size := by obtain ⟨_, _, h1, -⟩ := F; exact (Array.getElem?_eq_some_iff.mp h1).1
theorem own_LMx.ext (F : own_LMx x pc index σ Z h a) (E : Ext h h') : own_LMx x pc index σ Z h' a := by obtain ⟨c, k, h1, r⟩ := F; exact ⟨c, k, E.2 _ _ h1, r⟩
theorem own_LMx.wr {sl : Nat} {v : Value} (F : own_LMx x pc index σ Z h b) (W : Wr h h' a sl v) : own_LMx x pc index σ Z h' b := by
  obtain ⟨c, k, h1, h2, h3, h4⟩ := F
  obtain ⟨k', e1, e2, e3, -⟩ := wr_at W h1
  exact ⟨c, k', e1, e2.trans h2, e3.trans h3, h4⟩
theorem own_LMx.keep (F : own_LMx x pc index σ Z h a) (K : Keep h h' ws) : own_LMx x pc index σ Z h' a := by
  obtain ⟨c, k, h1, h2, h3, h4⟩ := F
  obtain ⟨k', q, r1, r2, -⟩ := K.2.2 a k h1
  exact ⟨c, k', q, r1.trans h2, r2.trans h3, h4⟩
theorem own_LMx.start {args : Array Value} (w : (Jvm.Cond.lambdaSite x pc index σ).before args Z = true) (hc : σ.captured = []) : ∃ a, own_LMx x pc index σ Z Z.heap a := by
  obtain ⟨cK, one, hat⟩ := Cond.lambdaSite_spec w
  obtain ⟨m, k, cf, i0, p0, lk, -, -, -, -, -, -, -, -, hl⟩ := State.lambdaAt?_spec hat
  rcases hl with ⟨a, cell, -, rfl, -, h1, h2, h3, -⟩ | ⟨-, -, h⟩
  · exact ⟨a, cK, cell, h1, h2, h3, hat⟩
  · exact absurd hc h
end
theorem own_indy {p : Program} {l : Launch} {e : Env} {R : Room} {s : State} {m : MethodId} {args : Array Value} {below : List Frame} {meth : Method} {c : Code} {T : State} {locs : List Loc} {cells slots : Nat} {Z : State} {h : Heap} {x : MethodName} {pc index : Nat} {σ : Lambda.Shape} {a : Addr}
    (X : Stand p l e R s m args below meth c T locs cells slots) (hx : p.tables.exec = Jvm.exec) (hZ : Z.Warmed39 s.vm) (hnamed : s.methodNamed? x = some m) (F : own_LMx x pc index σ Z h a)
    {g : JFrame} (hg : g.method = m) (hpc : g.pc = pc) (hsize : g.locals.size = c.maxLocals) (hd : decode c.code g.pc = .ok (.invokedynamic index, 5)) {W : Nat} (hW : 2 * g.monitorRoom + (g.stack.map fun v => v.category).sum ≤ W) (hw : W + 3072 ≤ R.locals) {target : State}
    (k : Steps p.tables e below (T.setTop { g with pc := g.pc + 5, stack := .ref a :: g.stack }) target) : Steps p.tables e below (T.setTop g) target := by
  obtain ⟨cK, cell, -, -, -, hat⟩ := F
  obtain ⟨m1, k1, cf, i0, p0, lk, hm, hk, -, -, -, hfind, -, -, hl⟩ := State.lambdaAt?_spec hat
  have hm' : s.methodNamed? x = some m1 := by
    have q := State.methodNamed?_setVm (s := Z) hZ.alike x
    rw [hm] at q; exact q
  cases hnamed.symm.trans hm'
  obtain ⟨k2, hk2, e2⟩ := hZ.alike.2.2 _ _ hk
  have ec : k2.callSites = k1.callSites := by rw [e2]
  rcases hl with ⟨b, cb, rfl, hb, -, -, -, -, -⟩ | ⟨-, hb, -⟩
  · cases hb
    have hl : e.platform.lambdaLinkWords = 3072 := by rw [X.admits.platform]
    exact X.lambdaConstant hx hg hsize hd hk2 (by rw [ec, hpc]; exact hfind) (by rw [hl]; omega) k
  · cases hb
abbrev own_sig : Lambda.Shape := Lambda.Shape.mk "java/util/function/IntUnaryOperator" "applyAsInt" ⟨[.int], some .int⟩ [] 6 own_N1 "lambda$index$1" ⟨[.int], some .int⟩ false ⟨[.int], some .int⟩
abbrev own_xi : MethodName := ⟨"java/util/function/IntUnaryOperator", "applyAsInt", "(I)I"⟩
abbrev own_y : MethodName := ⟨own_N1, "lambda$index$1", "(I)I"⟩
abbrev own_x : MethodName := ⟨own_N1, "index", "()V"⟩
def own_LM (Z : State) (h : Heap) (a : Addr) : Prop := own_LMx own_x 65 199 own_sig Z h a
section
variable {Z : State} {h h' : Heap} {a b : Addr} {ws : List Addr}
theorem own_LM.lt (F : own_LM Z h a) : a < h.size := own_LMx.lt F
theorem own_LM.ext (F : own_LM Z h a) (E : Ext h h') : own_LM Z h' a := own_LMx.ext F E
theorem own_LM.wr {sl : Nat} {v : Value} (F : own_LM Z h b) (W : Wr h h' a sl v) : own_LM Z h' b := own_LMx.wr F W
theorem own_LM.keep (F : own_LM Z h a) (K : Keep h h' ws) : own_LM Z h' a := own_LMx.keep F K
end
def own_fc : ByteArray := ⟨#[0x1b, 0xb8, 0x00, 0x11, 0xac]⟩
theorem own_fwd : Jvm.LamKit.fwdOK own_sig own_N1 own_fc 2 (some .int) 17 14 = true := by decide +kernel
theorem own_f0 : decode own_fc 0 = .ok (.iload_n 1, 1) := by decide +kernel
theorem own_f1 : decode own_fc 1 = .ok (.invokestatic 17, 3) := by decide +kernel
theorem own_f4 : decode own_fc 4 = .ok (.ireturn, 1) := by decide +kernel
theorem own_l0 : decode prog_6_method_19_code 0 = .ok (.iload_n 0, 1) := by decide +kernel
theorem own_l1 : decode prog_6_method_19_code 1 = .ok (.ireturn, 1) := by decide +kernel
abbrev own_wsT : List Jvm.Cond := [Jvm.Cond.code own_y prog_6_method_19_code 1 (some .int)]
theorem own_tgt (l : Launch) (v : Int32) : Met l own_y own_wsT { frames := 0, cells := 0, slots := 0, locals := 0 } (fun args _ => args = #[.int v]) (fun _ st o t => o = .returned (some (.int v)) ∧ t.heap = st.heap) 0 0 (fun _ => False) := by
  refine MetFree.of_bodyS (code := prog_6_method_19_code) (maxLocals := 1) (ret := some .int) (by decide) (Jvm.LamKit.hisOf (List.mem_singleton.mpr rfl)) ?_
  intro p e s m args below meth c s₁ Bd hml hP _
  obtain rfl : args = #[.int v] := hP
  have X := Stand.of_body Bd
  obtain ⟨fs, hr, hrun, hended, hW, hsame⟩ := X.leave (v := some (.int v)) (fun h => by rw [Bd.returns] at h; cases h)
  refine ⟨s₁.setFrames fs, _, ?_, hrun, hended, ⟨rfl, by show s₁.heap = s.heap; rw [Bd.state]; rfl⟩, [], ⟨⟨_, rfl⟩, hW, hsame⟩, fun q hq => nomatch hq⟩
  show Steps p.tables e below (s₁.setTop (mkF m 0 #[.val (.int v)] [])) _
  refine XS.iloadN X.here Bd.exec rfl (hb Bd.bytes own_l0) rfl ?_
  exact X.ireturnOut Bd.exec Bd.returns rfl (Or.inl rfl) (hb Bd.bytes own_l1) hr
theorem own_madeAt {Z s : State} {h : Heap} {a : Addr} (hZ : Z.Warmed39 s.vm) (F : own_LM Z h a) : ∃ cK, Jvm.LamKit.Made s own_N1 own_sig cK ∧ Jvm.LamKit.FnAt h a cK := by
  obtain ⟨cK, cell, h1, h2, h3, hat⟩ := F
  obtain ⟨m1, k1, cf, i0, p0, lk, hm, hk, -, -, -, -, hmade, hcall, -⟩ := State.lambdaAt?_spec hat
  obtain ⟨kD, hkD, hnm⟩ := className_of_methodNamed hm
  cases hk.symm.trans hkD
  obtain ⟨k2, hk2, e2⟩ := hZ.alike.2.2 _ _ hk
  have hA := hZ.alike
  refine ⟨cK, ⟨m1.cls, k2, hk2, by rw [e2]; exact hnm, own_made39 hZ hmade, ?_⟩, cell, h1, h2, h3⟩
  simp only [State.lambdaCallable, hA.findClass, hA.assignable, hA.superclasses, hA.declaredIn] at hcall ⊢
  exact hcall
theorem own_lamcall {p : Program} {l : Launch} {e : Env} {R : Room} {s : State} {m : MethodId} {args : Array Value} {below : List Frame} {meth : Method} {c : Code} {T : State} {locs : List Loc} {cells slots : Nat} {Z : State} {a0 : Array Value} {h : Heap} {a : Addr}
    (X : Stand p l e R s m args below meth c T locs cells slots) (hx : p.tables.exec = Jvm.exec) (hZ : Z.Warmed39 s.vm) (hown : s.vm.findClass "java/util/Arrays" = some m.cls) (hw : ∀ d ∈ tables_1, d.before a0 Z = true) (he : T.heap = h) (F : own_LM Z h a)
    {g : JFrame} (hg : g.method = m) (hsize : g.locals.size = c.maxLocals) {v : Int32} {rest : List Value} (hstack : g.stack = .int v :: .ref a :: rest) (hd : decode c.code g.pc = .ok (.invokeinterface 582 2, 5)) (hfr : 2 ≤ R.frames)
    {W : Nat} (hW : 2 * g.monitorRoom + (rest.map fun v => v.category).sum ≤ W) (hlo : W + 25 ≤ R.locals) (hc : cells ≤ R.cells) (hs : slots ≤ R.slots) :
    ∃ T', Stand p l e R s m args below meth c T' locs cells slots ∧ T'.heap = h ∧ ∀ target, Steps p.tables e below (T'.setTop { g with pc := g.pc + 5, stack := .int v :: rest }) target → Steps p.tables e below (T.setTop g) target := by
  obtain ⟨cK, hmd, hfn⟩ := own_madeAt hZ F
  subst he
  have hcT : (Cond.code own_y prog_6_method_19_code 1 (some .int)).before args s = true := mvT hZ (hw _ (List.mem_of_getElem? (i := 91) rfl))
  obtain ⟨w, st, t, T', L, X', hL, e1, e2, ⟨hq, e3⟩, st8⟩ := Jvm.LamKit.callLamS X hx (own := "java/util/Arrays") (host := own_N1) (index := 582) (count := 2) (xi := own_xi) (y := own_y) (σ := own_sig) (own_tgt l v) (fun _ _ _ _ h => h) rfl rfl
    (fun w hw' a' U hU => by rw [List.mem_singleton.mp hw']; exact word_at hU (Or.inl (by first | rfl | simp [Cond.onTables, Cond.keeps, Cond.steady])) hcT) (List.mem_singleton.mpr rfl)
    hown (mvT hZ (hw _ (List.mem_of_getElem? (i := 87) rfl))) (mvT hZ (hw _ (List.mem_of_getElem? (i := 88) rfl))) (mvT hZ (hw _ (List.mem_of_getElem? (i := 89) rfl))) hcT (mvT hZ (hw _ (List.mem_of_getElem? (i := 90) rfl))) (mvT hZ (own_w2 hw)) (by decide +kernel) (by decide +kernel) (by decide) hmd hfn own_fwd own_f1 own_f4
    (g := g) hg hsize (argsL := [.int v]) (argsT := [.int v]) (rest := rest) (L0 := #[.val (.ref a), .val (.int v)])
    (fun sig h => by cases (by decide +kernel : parseMethodDescriptor own_xi.desc = some ⟨[.int], some .int⟩).symm.trans h; rfl) (fun sig h => by cases (by decide +kernel : parseMethodDescriptor own_y.desc = some ⟨[.int], some .int⟩).symm.trans h; rfl)
    hstack hd (fun _ => rfl) rfl
    (fun U ck bl target hU hck _ _ k => XS.iloadN hU hx rfl (hb hck own_f0) rfl k)
    (fun st w t h => by cases h.1; exact Or.inl ⟨.int, _, rfl, Or.inl rfl, rfl, rfl, rfl⟩) hfr (by show 2 * g.monitorRoom + (rest.map fun v => v.category).sum + (2 + 11) + (1 + 11 + 0) ≤ _; omega) hc hs (fun _ _ _ => rfl)
  cases hq
  exact ⟨T', Stand.forget (extra := L) X' (fun q hq => (hL q hq).elim), (e1.trans e3).trans e2, st8⟩

theorem own_d3_0 : decode prog_6_method_2_code 0 = .ok (.aload_n 0, 1) := by decide +kernel
theorem own_d3_1 : decode prog_6_method_2_code 1 = .ok (.aconst_null, 1) := by decide +kernel
theorem own_d3_2 : decode prog_6_method_2_code 2 = .ok (.putfield 19, 3) := by decide +kernel
theorem own_d3_5 : decode prog_6_method_2_code 5 = .ok (.aload_n 0, 1) := by decide +kernel
theorem own_d3_6 : decode prog_6_method_2_code 6 = .ok (.getfield 22, 3) := by decide +kernel
theorem own_d3_9 : decode prog_6_method_2_code 9 = .ok (.istore_n 1, 1) := by decide +kernel
theorem own_d3_10 : decode prog_6_method_2_code 10 = .ok (.aload_n 0, 1) := by decide +kernel
theorem own_d3_11 : decode prog_6_method_2_code 11 = .ok (.dup, 1) := by decide +kernel
theorem own_d3_12 : decode prog_6_method_2_code 12 = .ok (.getfield 22, 3) := by decide +kernel
theorem own_d3_15 : decode prog_6_method_2_code 15 = .ok (.iconst 1, 1) := by decide +kernel
theorem own_d3_16 : decode prog_6_method_2_code 16 = .ok (.iadd, 1) := by decide +kernel
theorem own_d3_17 : decode prog_6_method_2_code 17 = .ok (.putfield 22, 3) := by decide +kernel
theorem own_d3_20 : decode prog_6_method_2_code 20 = .ok (.iload_n 1, 1) := by decide +kernel
theorem own_d3_21 : decode prog_6_method_2_code 21 = .ok (.ireturn, 1) := by decide +kernel
theorem own_ef_own_rm3 (m : MethodId) (x0 : Addr) : entryFrame m #[(.ref x0)] 2 = mkF m 0 #[.val (.ref x0), .unset] [] := by first | (simp [entryFrame, mkF, argsToLocals, Value.category]; done) | rfl
def own_Q3 (Z : State) (a_1 : Addr) (w_heads_a_1 : Value) (w_bodyStarts_a_1 : Value) (w_bodies_a_1 : Value) (w_occurrences_a_1 : Value) (w_variableCount_a_1 : Int32) (w_clauseCount_a_1 : Int32) (w_derivationStarts_a_1 : Value) (w_derivations_a_1 : Value) (w_occurrenceStarts_a_1 : Value) (h0 : Heap) (n0 : Nat) (v : Option Value) (h : Heap) (L : List Loc) : Prop := v = some (.int w_variableCount_a_1) ∧ Fr n0 L ∧ Keep h0 h [a_1] ∧ Exa Z h a_1 own_N1 ∧ Fld Z h a_1 own_N1 "heads" "[I" w_heads_a_1 ∧ Fld Z h a_1 own_N1 "bodyStarts" "[I" w_bodyStarts_a_1 ∧ Fld Z h a_1 own_N1 "bodies" "[I" w_bodies_a_1 ∧ Fld Z h a_1 own_N1 "occurrences" "[I" .null ∧ Fld Z h a_1 own_N1 "variableCount" "I" (.int (w_variableCount_a_1 + (1 : Int32))) ∧ Fld Z h a_1 own_N1 "clauseCount" "I" (.int w_clauseCount_a_1) ∧ Fld Z h a_1 own_N1 "derivationStarts" "[I" w_derivationStarts_a_1 ∧ Fld Z h a_1 own_N1 "derivations" "[I" w_derivations_a_1 ∧ Fld Z h a_1 own_N1 "occurrenceStarts" "[I" w_occurrenceStarts_a_1
set_option maxRecDepth 65536 in
set_option maxHeartbeats 40000000 in
theorem own_rm3 (l : Launch) (Z : State) (a0 : Array Value) (hw : ∀ d ∈ tables_1, d.before a0 Z = true) (ws : List Jvm.Cond) (a_1 : Addr) (w_heads_a_1 : Value) (w_bodyStarts_a_1 : Value) (w_bodies_a_1 : Value) (w_occurrences_a_1 : Value) (w_variableCount_a_1 : Int32) (w_clauseCount_a_1 : Int32) (w_derivationStarts_a_1 : Value) (w_derivations_a_1 : Value) (w_occurrenceStarts_a_1 : Value) (h0 : Heap) (n0 : Nat) (Z0 : n0 ≤ h0.size) (pr_E_a_1 : Exa Z h0 a_1 own_N1) (pr_F_a_1_heads : Fld Z h0 a_1 own_N1 "heads" "[I" w_heads_a_1) (pr_F_a_1_bodyStarts : Fld Z h0 a_1 own_N1 "bodyStarts" "[I" w_bodyStarts_a_1) (pr_F_a_1_bodies : Fld Z h0 a_1 own_N1 "bodies" "[I" w_bodies_a_1) (pr_F_a_1_occurrences : Fld Z h0 a_1 own_N1 "occurrences" "[I" w_occurrences_a_1) (pr_F_a_1_variableCount : Fld Z h0 a_1 own_N1 "variableCount" "I" (.int w_variableCount_a_1)) (pr_F_a_1_clauseCount : Fld Z h0 a_1 own_N1 "clauseCount" "I" (.int w_clauseCount_a_1)) (pr_F_a_1_derivationStarts : Fld Z h0 a_1 own_N1 "derivationStarts" "[I" w_derivationStarts_a_1) (pr_F_a_1_derivations : Fld Z h0 a_1 own_N1 "derivations" "[I" w_derivations_a_1) (pr_F_a_1_occurrenceStarts : Fld Z h0 a_1 own_N1 "occurrenceStarts" "[I" w_occurrenceStarts_a_1) (gw_a_1 : n0 ≤ a_1) :
    MetFree l (⟨own_N1, "newVariable", "()I"⟩ : MethodName) (head1 (Jvm.Cond.code (⟨own_N1, "newVariable", "()I"⟩ : MethodName) prog_6_method_2_code 2 (some .int) :: ws) ({ frames := 0, cells := 0, slots := 0, locals := 0 } : Room)) (fun a U => a = #[(.ref a_1)] ∧ Z.Warmed39 U.vm ∧ U.heap = h0) (fun _ _ _ _ _ => True) (fun _ U o U' => ∃ v L, o = .returned v ∧ own_Q3 Z a_1 w_heads_a_1 w_bodyStarts_a_1 w_bodies_a_1 w_occurrences_a_1 w_variableCount_a_1 w_clauseCount_a_1 w_derivationStarts_a_1 w_derivations_a_1 w_occurrenceStarts_a_1 h0 n0 v U'.heap L ∧ FrameEnd U o U' L ({ frames := 0, cells := 0, slots := 0, locals := 0 } : Room).cells ({ frames := 0, cells := 0, slots := 0, locals := 0 } : Room).slots) := by
  refine MetFree.of_bodySF (plainFor_of_name own_pn0) hisR ?_
  intro p e s m args below meth c s₁ Bd hml0 hP hK
  obtain ⟨rfl, hZ, hh⟩ := hP
  have hx := Bd.exec
  have hby := Bd.bytes
  have hml : c.maxLocals = 2 := hml0
  have hown : s.vm.findClass own_N1 = some m.cls := findClass_of_methodNamed Bd.named
  have hnm := (name_of_methodNamed Bd.named Bd.method).1
  have X0 : Stand p l e ({ frames := 0, cells := 0, slots := 0, locals := 0 } : Room) s m #[(.ref a_1)] below meth c s₁ [] 0 0 := Stand.of_body Bd
  have e0 : s₁.heap = h0 := by rw [← hh, Bd.state]; rfl
  have N0 := Fr.nil n0
  have z0 : n0 ≤ h0.size := Z0
  have z1 := own_lt pr_E_a_1.lt
  have z2 := own_lt pr_F_a_1_heads.lt
  have z3 := own_lt pr_F_a_1_bodyStarts.lt
  have z4 := own_lt pr_F_a_1_bodies.lt
  have z5 := own_lt pr_F_a_1_occurrences.lt
  have z6 := own_lt pr_F_a_1_variableCount.lt
  have z7 := own_lt pr_F_a_1_clauseCount.lt
  have z8 := own_lt pr_F_a_1_derivationStarts.lt
  have z9 := own_lt pr_F_a_1_derivations.lt
  have z10 := own_lt pr_F_a_1_occurrenceStarts.lt
  have K0 : Keep h0 h0 [a_1] := Keep.refl h0 _
  show own_Go p.tables e below (fun t o => t.status = .running ∧ Ended t below o ∧ ∃ v L, o = .returned v ∧ own_Q3 Z a_1 w_heads_a_1 w_bodyStarts_a_1 w_bodies_a_1 w_occurrences_a_1 w_variableCount_a_1 w_clauseCount_a_1 w_derivationStarts_a_1 w_derivations_a_1 w_occurrenceStarts_a_1 h0 n0 v t.heap L ∧ FrameEnd s o t L ({ frames := 0, cells := 0, slots := 0, locals := 0 } : Room).cells ({ frames := 0, cells := 0, slots := 0, locals := 0 } : Room).slots) s₁ (entryFrame m #[(.ref a_1)] 2)
  rw [own_ef_own_rm3 m a_1]
  show own_Go _ _ _ _ s₁ (mkF m 0 #[.val (.ref a_1), .unset] [])
  refine own_go (fun _ k => XS.aloadN X0.here hx rfl (hb hby own_d3_0) rfl rfl (XS.aconstNull X0.here hx rfl (hb hby own_d3_1) k)) ?_
  obtain ⟨T11, h11, X11, e11, W11, st11⟩ := putF X0 hx hZ hown (host := "") (Or.inl (hw _ (List.mem_of_getElem? (i := 21) rfl))) Via.refl e0 pr_F_a_1_occurrences pr_E_a_1 (Or.inl (own_w22 hw)) (own_w1 hw) (ty := (.array .int)) (by decide) rfl rfl (g := (mkF m 2 #[.val (.ref a_1), .unset] [.null, (.ref a_1)])) rfl rfl (hb hby own_d3_2)
  have z12 := W11.size
  have K11 : Keep h0 h11 [a_1] := K0.wr W11 (Or.inl (List.mem_of_getElem? (i := 0) rfl))
  have N11 := Fr.snoc X11 N0 (by omega : n0 ≤ a_1)
  have Fw11 : Fld Z h11 a_1 own_N1 "occurrences" "[I" .null := Fld.same W11 pr_F_a_1_occurrences
  refine own_go (fun _ k => st11 _ k) ?_
  show own_Go _ _ _ _ T11 (mkF m 5 #[.val (.ref a_1), .unset] [])
  refine own_go (fun _ k => XS.aloadN X11.here hx rfl (hb hby own_d3_5) rfl rfl k) ?_
  have f13 := (pr_F_a_1_variableCount.other W11 (Or.inr (slot_ne (Or.inl (own_w24 hw)) (Or.inl (own_w22 hw)) (by decide) (t := .int) (t' := (.array .int)) (by decide) (by decide))))
  obtain ⟨T14, X14, e14, st14⟩ := getF X11 hx hZ hown (host := "") (Or.inl (own_w23 hw)) Via.refl e11 f13 (g := (mkF m 6 #[.val (.ref a_1), .unset] [(.ref a_1)])) rfl rfl (hb hby own_d3_6)
  refine own_go (fun _ k => st14 _ k) ?_
  show own_Go _ _ _ _ T14 (mkF m 9 #[.val (.ref a_1), .unset] [(.int w_variableCount_a_1)])
  refine own_go (fun _ k => XS.istoreN X14.here hx rfl (hb hby own_d3_9) rfl (l' := #[.val (.ref a_1), .val (.int w_variableCount_a_1)]) rfl (XS.aloadN X14.here hx rfl (hb hby own_d3_10) rfl rfl (XS.dup X14.here hx rfl (hb hby own_d3_11) rfl rfl k))) ?_
  obtain ⟨T15, X15, e15, st15⟩ := getF X14 hx hZ hown (host := "") (Or.inl (own_w23 hw)) Via.refl e14 f13 (g := (mkF m 12 #[.val (.ref a_1), .val (.int w_variableCount_a_1)] [(.ref a_1), (.ref a_1)])) rfl rfl (hb hby own_d3_12)
  refine own_go (fun _ k => st15 _ k) ?_
  show own_Go _ _ _ _ T15 (mkF m 15 #[.val (.ref a_1), .val (.int w_variableCount_a_1)] [(.int w_variableCount_a_1), (.ref a_1)])
  refine own_go (fun _ k => XS.iconst X15.here hx rfl (hb hby own_d3_15) (XS.iadd X15.here hx rfl (hb hby own_d3_16) rfl k)) ?_
  have f16 := (pr_E_a_1.wr W11)
  obtain ⟨T17, h17, X17, e17, W17, st17⟩ := putF X15 hx hZ hown (host := "") (Or.inl (own_w23 hw)) Via.refl e15 f13 f16 (Or.inl (own_w24 hw)) (own_w1 hw) (ty := .int) (by decide) rfl rfl (g := (mkF m 17 #[.val (.ref a_1), .val (.int w_variableCount_a_1)] [(.int (w_variableCount_a_1 + (1 : Int32))), (.ref a_1)])) rfl rfl (hb hby own_d3_17)
  have z18 := W17.size
  have K17 : Keep h0 h17 [a_1] := K11.wr W17 (Or.inl (List.mem_of_getElem? (i := 0) rfl))
  have N17 := Fr.snoc X17 N11 (by omega : n0 ≤ a_1)
  have Fw17 : Fld Z h17 a_1 own_N1 "variableCount" "I" (.int (w_variableCount_a_1 + (1 : Int32))) := Fld.same W17 f13
  refine own_go (fun _ k => st17 _ k) ?_
  show own_Go _ _ _ _ T17 (mkF m 20 #[.val (.ref a_1), .val (.int w_variableCount_a_1)] [])
  refine own_go (fun _ k => XS.iloadN X17.here hx rfl (hb hby own_d3_20) rfl k) ?_
  show own_Go _ _ _ _ T17 (mkF m 21 #[.val (.ref a_1), .val (.int w_variableCount_a_1)] [(.int w_variableCount_a_1)])
  obtain ⟨fs, hr, hrun, hended, hW, hsame⟩ := X17.leave (v := some (.int w_variableCount_a_1)) (fun h => by rw [Bd.returns] at h; cases h)
  refine ⟨_, _, retOut X17 hx Bd.returns rfl (Or.inl ⟨rfl, Or.inl rfl, _, rfl⟩) (hb hby own_d3_21) hr, hrun, hended, _, _, rfl, ?_, ⟨_, rfl⟩, hW, hsame.mono (by decide) (by decide)⟩
  show own_Q3 Z a_1 w_heads_a_1 w_bodyStarts_a_1 w_bodies_a_1 w_occurrences_a_1 w_variableCount_a_1 w_clauseCount_a_1 w_derivationStarts_a_1 w_derivations_a_1 w_occurrenceStarts_a_1 h0 n0 _ T17.heap _
  rw [e17]
  have f20 := (f16.wr W17)
  have f21 := ((pr_F_a_1_heads.other W11 (Or.inr (slot_ne (Or.inl (own_w11 hw)) (Or.inl (own_w22 hw)) (by decide) (t := (.array .int)) (t' := (.array .int)) (by decide) (by decide)))).other W17 (Or.inr (slot_ne (Or.inl (own_w11 hw)) (Or.inl (own_w24 hw)) (by decide) (t := (.array .int)) (t' := .int) (by decide) (by decide))))
  have f22 := ((pr_F_a_1_bodyStarts.other W11 (Or.inr (slot_ne (Or.inl (own_w13 hw)) (Or.inl (own_w22 hw)) (by decide) (t := (.array .int)) (t' := (.array .int)) (by decide) (by decide)))).other W17 (Or.inr (slot_ne (Or.inl (own_w13 hw)) (Or.inl (own_w24 hw)) (by decide) (t := (.array .int)) (t' := .int) (by decide) (by decide))))
  have f23 := ((pr_F_a_1_bodies.other W11 (Or.inr (slot_ne (Or.inl (own_w15 hw)) (Or.inl (own_w22 hw)) (by decide) (t := (.array .int)) (t' := (.array .int)) (by decide) (by decide)))).other W17 (Or.inr (slot_ne (Or.inl (own_w15 hw)) (Or.inl (own_w24 hw)) (by decide) (t := (.array .int)) (t' := .int) (by decide) (by decide))))
  have f24 := (Fw11.other W17 (Or.inr (slot_ne (Or.inl (own_w22 hw)) (Or.inl (own_w24 hw)) (by decide) (t := (.array .int)) (t' := .int) (by decide) (by decide))))
  have f25 := ((pr_F_a_1_clauseCount.other W11 (Or.inr (slot_ne (Or.inl (own_w47 hw)) (Or.inl (own_w22 hw)) (by decide) (t := .int) (t' := (.array .int)) (by decide) (by decide)))).other W17 (Or.inr (slot_ne (Or.inl (own_w47 hw)) (Or.inl (own_w24 hw)) (by decide) (t := .int) (t' := .int) (by decide) (by decide))))
  have f26 := ((pr_F_a_1_derivationStarts.other W11 (Or.inr (slot_ne (Or.inl (own_w105 hw)) (Or.inl (own_w22 hw)) (by decide) (t := (.array .int)) (t' := (.array .int)) (by decide) (by decide)))).other W17 (Or.inr (slot_ne (Or.inl (own_w105 hw)) (Or.inl (own_w24 hw)) (by decide) (t := (.array .int)) (t' := .int) (by decide) (by decide))))
  have f27 := ((pr_F_a_1_derivations.other W11 (Or.inr (slot_ne (Or.inl (own_w107 hw)) (Or.inl (own_w22 hw)) (by decide) (t := (.array .int)) (t' := (.array .int)) (by decide) (by decide)))).other W17 (Or.inr (slot_ne (Or.inl (own_w107 hw)) (Or.inl (own_w24 hw)) (by decide) (t := (.array .int)) (t' := .int) (by decide) (by decide))))
  have f28 := ((pr_F_a_1_occurrenceStarts.other W11 (Or.inr (slot_ne (Or.inl (own_w109 hw)) (Or.inl (own_w22 hw)) (by decide) (t := (.array .int)) (t' := (.array .int)) (by decide) (by decide)))).other W17 (Or.inr (slot_ne (Or.inl (own_w109 hw)) (Or.inl (own_w24 hw)) (by decide) (t := (.array .int)) (t' := .int) (by decide) (by decide))))
  exact ⟨rfl, N17, K17, f20, f21, f22, f23, f24, Fw17, f25, f26, f27, f28⟩
theorem own_d6_0 : decode prog_6_method_16_code 0 = .ok (.iload_n 1, 1) := by decide +kernel
theorem own_d6_1 : decode prog_6_method_16_code 1 = .ok (.ifCond .lt 8, 3) := by decide +kernel
theorem own_d6_4 : decode prog_6_method_16_code 4 = .ok (.iload_n 1, 1) := by decide +kernel
theorem own_d6_5 : decode prog_6_method_16_code 5 = .ok (.iload_n 2, 1) := by decide +kernel
theorem own_d6_6 : decode prog_6_method_16_code 6 = .ok (.if_icmp .lt 19, 3) := by decide +kernel
theorem own_d6_25 : decode prog_6_method_16_code 25 = .ok (.return_, 1) := by decide +kernel
theorem own_ef_own_rm6 (m : MethodId) (x0 : Addr) (x1 : Int32) (x2 : Int32) : entryFrame m #[(.ref x0), (.int x1), (.int x2)] 3 = mkF m 0 #[.val (.ref x0), .val (.int x1), .val (.int x2)] [] := by first | (simp [entryFrame, mkF, argsToLocals, Value.category]; done) | rfl
def own_Q6 (Z : State) (a_1 : Addr) (p_2 : Int32) (p_3 : Int32) (h0 : Heap) (n0 : Nat) (v : Option Value) (h : Heap) (L : List Loc) : Prop := v = none ∧ Fr n0 L ∧ h = h0
set_option maxRecDepth 65536 in
set_option maxHeartbeats 40000000 in
theorem own_rm6 (l : Launch) (Z : State) (a0 : Array Value) (hw : ∀ d ∈ tables_1, d.before a0 Z = true) (ws : List Jvm.Cond) (a_1 : Addr) (p_2 : Int32) (p_3 : Int32) (h0 : Heap) (n0 : Nat) (Z0 : n0 ≤ h0.size) (h1 : ¬ (p_2 < 0)) (h2 : p_2 < p_3) :
    MetFree l (⟨own_N1, "checkNumber", "(Ljava/lang/String;II)V"⟩ : MethodName) (head1 (Jvm.Cond.code (⟨own_N1, "checkNumber", "(Ljava/lang/String;II)V"⟩ : MethodName) prog_6_method_16_code 3 none :: ws) ({ frames := 0, cells := 0, slots := 0, locals := 0 } : Room)) (fun a U => a = #[(.ref a_1), (.int p_2), (.int p_3)] ∧ Z.Warmed39 U.vm ∧ U.heap = h0) (fun _ _ _ _ _ => True) (fun _ U o U' => ∃ v L, o = .returned v ∧ own_Q6 Z a_1 p_2 p_3 h0 n0 v U'.heap L ∧ FrameEnd U o U' L ({ frames := 0, cells := 0, slots := 0, locals := 0 } : Room).cells ({ frames := 0, cells := 0, slots := 0, locals := 0 } : Room).slots) := by
  refine MetFree.of_bodySF (plainFor_of_name own_pn0) hisR ?_
  intro p e s m args below meth c s₁ Bd hml0 hP hK
  obtain ⟨rfl, hZ, hh⟩ := hP
  have hx := Bd.exec
  have hby := Bd.bytes
  have hml : c.maxLocals = 3 := hml0
  have hown : s.vm.findClass own_N1 = some m.cls := findClass_of_methodNamed Bd.named
  have hnm := (name_of_methodNamed Bd.named Bd.method).1
  have X0 : Stand p l e ({ frames := 0, cells := 0, slots := 0, locals := 0 } : Room) s m #[(.ref a_1), (.int p_2), (.int p_3)] below meth c s₁ [] 0 0 := Stand.of_body Bd
  have e0 : s₁.heap = h0 := by rw [← hh, Bd.state]; rfl
  have N0 := Fr.nil n0
  have z0 : n0 ≤ h0.size := Z0
  show own_Go p.tables e below (fun t o => t.status = .running ∧ Ended t below o ∧ ∃ v L, o = .returned v ∧ own_Q6 Z a_1 p_2 p_3 h0 n0 v t.heap L ∧ FrameEnd s o t L ({ frames := 0, cells := 0, slots := 0, locals := 0 } : Room).cells ({ frames := 0, cells := 0, slots := 0, locals := 0 } : Room).slots) s₁ (entryFrame m #[(.ref a_1), (.int p_2), (.int p_3)] 3)
  rw [own_ef_own_rm6 m a_1 p_2 p_3]
  show own_Go _ _ _ _ s₁ (mkF m 0 #[.val (.ref a_1), .val (.int p_2), .val (.int p_3)] [])
  refine own_go (fun _ k => XS.iloadN X0.here hx rfl (hb hby own_d6_0) rfl (XS.ifNo X0.here hx rfl (hb hby own_d6_1) rfl (Jvm.Free.XT.i0_lt_f h1) (XS.iloadN X0.here hx rfl (hb hby own_d6_4) rfl (XS.iloadN X0.here hx rfl (hb hby own_d6_5) rfl k)))) ?_
  show own_Go _ _ _ _ s₁ (mkF m 6 #[.val (.ref a_1), .val (.int p_2), .val (.int p_3)] [(.int p_3), (.int p_2)])
  refine own_go (fun _ k => XS.icmpYes X0.here hx rfl (pc0 := 6) (pc' := 25) rfl (hb hby own_d6_6) rfl (Jvm.Free.XT.ii_lt_t h2) (by decide) (by decide) k) ?_
  show own_Go _ _ _ _ s₁ (mkF m 25 #[.val (.ref a_1), .val (.int p_2), .val (.int p_3)] [])
  obtain ⟨fs, hr, hrun, hended, hW, hsame⟩ := X0.leave (v := none) (fun _ => rfl)
  refine ⟨_, _, X0.returnOut hx Bd.returns (hb hby own_d6_25) hr, hrun, hended, _, _, rfl, ?_, ⟨_, rfl⟩, hW, hsame.mono (by decide) (by decide)⟩
  show own_Q6 Z a_1 p_2 p_3 h0 n0 _ s₁.heap _
  rw [e0]
  exact ⟨rfl, N0, rfl⟩
theorem own_d5_0 : decode prog_6_method_14_code 0 = .ok (.ldc 178, 2) := by decide +kernel
theorem own_d5_2 : decode prog_6_method_14_code 2 = .ok (.iload_n 1, 1) := by decide +kernel
theorem own_d5_3 : decode prog_6_method_14_code 3 = .ok (.aload_n 0, 1) := by decide +kernel
theorem own_d5_4 : decode prog_6_method_14_code 4 = .ok (.getfield 22, 3) := by decide +kernel
theorem own_d5_7 : decode prog_6_method_14_code 7 = .ok (.invokestatic 180, 3) := by decide +kernel
theorem own_d5_10 : decode prog_6_method_14_code 10 = .ok (.return_, 1) := by decide +kernel
theorem own_ef_own_rm5 (m : MethodId) (x0 : Addr) (x1 : Int32) : entryFrame m #[(.ref x0), (.int x1)] 2 = mkF m 0 #[.val (.ref x0), .val (.int x1)] [] := by first | (simp [entryFrame, mkF, argsToLocals, Value.category]; done) | rfl
def own_Q5 (Z : State) (a_1 : Addr) (p_2 : Int32) (w_variableCount_a_1 : Int32) (h0 : Heap) (n0 : Nat) (v : Option Value) (h : Heap) (L : List Loc) : Prop := v = none ∧ Fr n0 L ∧ Keep h0 h []
set_option maxRecDepth 65536 in
set_option maxHeartbeats 40000000 in
theorem own_rm5 (l : Launch) (Z : State) (a0 : Array Value) (hw : ∀ d ∈ tables_1, d.before a0 Z = true) (ws : List Jvm.Cond) (a_1 : Addr) (p_2 : Int32) (w_variableCount_a_1 : Int32) (h0 : Heap) (n0 : Nat) (Z0 : n0 ≤ h0.size) (h1 : ¬ (p_2 < 0)) (h2 : p_2 < w_variableCount_a_1) (pr_F_a_1_variableCount : Fld Z h0 a_1 own_N1 "variableCount" "I" (.int w_variableCount_a_1)) :
    MetFree l (⟨own_N1, "checkVariable", "(I)V"⟩ : MethodName) (head1 (Jvm.Cond.code (⟨own_N1, "checkVariable", "(I)V"⟩ : MethodName) prog_6_method_14_code 2 none :: ws) ({ frames := 1, cells := 2, slots := 36, locals := 14 } : Room)) (fun a U => a = #[(.ref a_1), (.int p_2)] ∧ Z.Warmed39 U.vm ∧ U.heap = h0) (fun _ _ _ _ _ => True) (fun _ U o U' => ∃ v L, o = .returned v ∧ own_Q5 Z a_1 p_2 w_variableCount_a_1 h0 n0 v U'.heap L ∧ ReturnedEndW U o U' L ({ frames := 1, cells := 2, slots := 36, locals := 14 } : Room).cells ({ frames := 1, cells := 2, slots := 36, locals := 14 } : Room).slots) := by
  refine MetFree.of_bodySF (plainFor_of_name own_pn0) hisR ?_
  intro p e s m args below meth c s₁ Bd hml0 hP hK
  obtain ⟨rfl, hZ, hh⟩ := hP
  have hx := Bd.exec
  have hby := Bd.bytes
  have hml : c.maxLocals = 2 := hml0
  have hown : s.vm.findClass own_N1 = some m.cls := findClass_of_methodNamed Bd.named
  have hnm := (name_of_methodNamed Bd.named Bd.method).1
  have X0 : Stand p l e ({ frames := 1, cells := 2, slots := 36, locals := 14 } : Room) s m #[(.ref a_1), (.int p_2)] below meth c s₁ [] 0 0 := Stand.of_body Bd
  have e0 : s₁.heap = h0 := by rw [← hh, Bd.state]; rfl
  have N0 := Fr.nil n0
  have X0 : Stand p l e ({ frames := 1, cells := 2, slots := 36, locals := 14 } : Room) (s.setVm s.vm) m #[(.ref a_1), (.int p_2)] below meth c s₁ [] 0 0 := X0
  have hZ : Z.Warmed39 (s.setVm s.vm).vm := hZ
  have hown : (s.setVm s.vm).vm.findClass own_N1 = some m.cls := hown
  have hS0 : s.Since s.vm 0 := (State.WarmedH.refl s).since 0
  have z0 : n0 ≤ h0.size := Z0
  have z1 := own_lt pr_F_a_1_variableCount.lt
  have K0 : Keep h0 h0 [] := Keep.refl h0 _
  show own_Go p.tables e below (fun t o => t.status = .running ∧ Ended t below o ∧ ∃ v L, o = .returned v ∧ own_Q5 Z a_1 p_2 w_variableCount_a_1 h0 n0 v t.heap L ∧ ReturnedEndW s o t L ({ frames := 1, cells := 2, slots := 36, locals := 14 } : Room).cells ({ frames := 1, cells := 2, slots := 36, locals := 14 } : Room).slots) s₁ (entryFrame m #[(.ref a_1), (.int p_2)] 2)
  rw [own_ef_own_rm5 m a_1 p_2]
  show own_Go _ _ _ _ s₁ (mkF m 0 #[.val (.ref a_1), .val (.int p_2)] [])
  obtain ⟨b2, T2, h2, k2, X2, e2, E2, hS2, g2, hZ, hown, Li2, Wn2, st2⟩ := own_ldcSL X0 hx hZ hown (hw _ (List.mem_of_getElem? (i := 35) rfl)) (own_wS hw) e0 hS0 (by omega) (g := (mkF m 0 #[.val (.ref a_1), .val (.int p_2)] [])) rfl (hb hby own_d5_0) (n := 32) (by decide +kernel) (by decide) (by decide) (by decide)
  have z3 := E2.1
  have K2 : Keep h0 h2 [] := K0.ext E2
  refine own_go (fun _ k => st2 _ k) ?_
  show own_Go _ _ _ _ T2 (mkF m 2 #[.val (.ref a_1), .val (.int p_2)] [(.ref b2)])
  refine own_go (fun _ k => XS.iloadN X2.here hx rfl (hb hby own_d5_2) rfl (XS.aloadN X2.here hx rfl (hb hby own_d5_3) rfl rfl k)) ?_
  have f4 := (pr_F_a_1_variableCount.ext E2)
  obtain ⟨T5, X5, e5, st5⟩ := getF X2 hx hZ hown (host := "") (Or.inl (own_w23 hw)) Via.refl e2 f4 (g := (mkF m 4 #[.val (.ref a_1), .val (.int p_2)] [(.ref a_1), (.int p_2), (.ref b2)])) rfl rfl (hb hby own_d5_4)
  refine own_go (fun _ k => st5 _ k) ?_
  show own_Go _ _ _ _ T5 (mkF m 7 #[.val (.ref a_1), .val (.int p_2)] [(.int w_variableCount_a_1), (.int p_2), (.ref b2)])
  obtain ⟨_, _, ⟨T6, L6, k6, n6⟩, -, X6, ⟨Lc6, hQ6, l6, y6, z6⟩, st6⟩ := Jvm.LawKit.callS X5 hx (y := (⟨own_N1, "checkNumber", "(Ljava/lang/String;II)V"⟩ : MethodName)) hown (mvT hZ (hw _ (List.mem_of_getElem? (i := 43) rfl))) (mvT hZ (hw _ (List.mem_of_getElem? (i := 44) rfl))) (mvT hZ (own_w2 hw)) (mvT hZ (hw _ (List.mem_of_getElem? (i := 45) rfl))) (by decide) (backOf (W := 0) (own_rm6 l Z a0 hw [] b2 p_2 w_variableCount_a_1  h2 n0 (by omega) (show ¬ (p_2 < 0) by first | assumption | omega | decide) (show p_2 < w_variableCount_a_1 by first | assumption | omega | decide)) hZ (hw _ (List.mem_of_getElem? (i := 45) rfl)) (own_w2 hw) (by decide) (by decide)) (g := (mkF m 7 #[.val (.ref a_1), .val (.int p_2)] [(.int w_variableCount_a_1), (.int p_2), (.ref b2)])) rfl (by rw [hml]; rfl) (argsL := [(.ref b2), (.int p_2), (.int w_variableCount_a_1)]) (rest := []) (lenOf own_pd0 rfl) rfl (by show 2 * 0 + _ ≤ _; exact Nat.le_of_eq rfl) (hb hby own_d5_7) (fun _ _ => ⟨rfl, e5, (by decide : 2 + 0 ≤ _), (by decide : 36 + 0 ≤ _)⟩)
  dsimp only [Pt.U, Pt.locs, Pt.cells, Pt.slots] at X6 l6 y6 z6 st6 hQ6
  have y6 : k6 = 2 := y6
  have z6 : n6 = 36 := z6
  obtain ⟨rfl, N6q, e6⟩ := hQ6
  have N6 : Fr n0 L6 := by rw [l6]; exact Fr.app N0 N6q
  refine own_go (fun _ k => st6 _ k) ?_
  show own_Go _ _ _ _ T6 (mkF m 10 #[.val (.ref a_1), .val (.int p_2)] [])
  obtain ⟨fs, hr, hrun, hended, hRW⟩ := X6.leaveW hS2 (by rw [e6]; omega) (v := none) (fun _ => rfl)
  refine ⟨_, _, X6.returnOut hx Bd.returns (hb hby own_d5_10) hr, hrun, hended, _, _, rfl, ?_, own_monoW hRW (by rw [y6]; decide) (by rw [z6]; decide)⟩
  show own_Q5 Z a_1 p_2 w_variableCount_a_1 h0 n0 _ T6.heap _
  rw [e6]
  exact ⟨rfl, N6, K2⟩
theorem own_d1_0 : decode prog_6_method_1_code 0 = .ok (.aload_n 0, 1) := by decide +kernel
theorem own_d1_1 : decode prog_6_method_1_code 1 = .ok (.invokespecial 1, 3) := by decide +kernel
theorem own_d1_4 : decode prog_6_method_1_code 4 = .ok (.aload_n 0, 1) := by decide +kernel
theorem own_d1_5 : decode prog_6_method_1_code 5 = .ok (.bipush 64, 2) := by decide +kernel
theorem own_d1_7 : decode prog_6_method_1_code 7 = .ok (.newarray .int, 2) := by decide +kernel
theorem own_d1_9 : decode prog_6_method_1_code 9 = .ok (.putfield 9, 3) := by decide +kernel
theorem own_d1_12 : decode prog_6_method_1_code 12 = .ok (.aload_n 0, 1) := by decide +kernel
theorem own_d1_13 : decode prog_6_method_1_code 13 = .ok (.bipush 65, 2) := by decide +kernel
theorem own_d1_15 : decode prog_6_method_1_code 15 = .ok (.newarray .int, 2) := by decide +kernel
theorem own_d1_17 : decode prog_6_method_1_code 17 = .ok (.putfield 13, 3) := by decide +kernel
theorem own_d1_20 : decode prog_6_method_1_code 20 = .ok (.aload_n 0, 1) := by decide +kernel
theorem own_d1_21 : decode prog_6_method_1_code 21 = .ok (.bipush 64, 2) := by decide +kernel
theorem own_d1_23 : decode prog_6_method_1_code 23 = .ok (.newarray .int, 2) := by decide +kernel
theorem own_d1_25 : decode prog_6_method_1_code 25 = .ok (.putfield 16, 3) := by decide +kernel
theorem own_d1_28 : decode prog_6_method_1_code 28 = .ok (.return_, 1) := by decide +kernel
theorem own_ef_own_rm1_s1 (m : MethodId) (x0 : Addr) : entryFrame m #[(.ref x0)] 1 = mkF m 0 #[.val (.ref x0)] [] := by first | (simp [entryFrame, mkF, argsToLocals, Value.category]; done) | rfl
def own_Q1_s1 (Z : State) (a_1 : Addr) (u_0 : Value) (u_1 : Value) (u_2 : Value) (u_3 : Value) (u_4 : Value) (u_5 : Value) (u_6 : Value) (u_7 : Value) (u_8 : Value) (h0 : Heap) (n0 : Nat) (v : Option Value) (h : Heap) (L : List Loc) : Prop := ∃ (x_0 : Addr) (x_1 : Addr) (x_2 : Addr), v = none ∧ Fr n0 L ∧ Keep h0 h [a_1] ∧ Exa Z h a_1 own_N1 ∧ Fld Z h a_1 own_N1 "bodies" "[I" (.ref x_0) ∧ Fld Z h a_1 own_N1 "bodyStarts" "[I" (.ref x_1) ∧ Fld Z h a_1 own_N1 "clauseCount" "I" u_5 ∧ Fld Z h a_1 own_N1 "derivationStarts" "[I" u_6 ∧ Fld Z h a_1 own_N1 "derivations" "[I" u_7 ∧ Fld Z h a_1 own_N1 "heads" "[I" (.ref x_2) ∧ Fld Z h a_1 own_N1 "occurrenceStarts" "[I" u_8 ∧ Fld Z h a_1 own_N1 "occurrences" "[I" u_3 ∧ Fld Z h a_1 own_N1 "variableCount" "I" u_4 ∧ own_AV Z h x_0 .int 64 (fun _ => (.int 0)) ∧ own_AV Z h x_1 .int 65 (fun _ => (.int 0)) ∧ own_AV Z h x_2 .int 64 (fun _ => (.int 0)) ∧ (h0.size ≤ x_0) ∧ (h0.size ≤ x_1) ∧ (h0.size ≤ x_2) ∧ (own_lts [x_2, x_1, x_0])
set_option maxRecDepth 65536 in
set_option maxHeartbeats 40000000 in
theorem own_rm1_s1 (l : Launch) (Z : State) (a0 : Array Value) (hw : ∀ d ∈ tables_1, d.before a0 Z = true) (ws : List Jvm.Cond) (a_1 : Addr) (u_0 : Value) (u_1 : Value) (u_2 : Value) (u_3 : Value) (u_4 : Value) (u_5 : Value) (u_6 : Value) (u_7 : Value) (u_8 : Value) (h0 : Heap) (n0 : Nat) (Z0 : n0 ≤ h0.size) (pr_E_a_1 : Exa Z h0 a_1 own_N1) (pr_F_a_1_bodies : Fld Z h0 a_1 own_N1 "bodies" "[I" u_2) (pr_F_a_1_bodyStarts : Fld Z h0 a_1 own_N1 "bodyStarts" "[I" u_1) (pr_F_a_1_clauseCount : Fld Z h0 a_1 own_N1 "clauseCount" "I" u_5) (pr_F_a_1_derivationStarts : Fld Z h0 a_1 own_N1 "derivationStarts" "[I" u_6) (pr_F_a_1_derivations : Fld Z h0 a_1 own_N1 "derivations" "[I" u_7) (pr_F_a_1_heads : Fld Z h0 a_1 own_N1 "heads" "[I" u_0) (pr_F_a_1_occurrenceStarts : Fld Z h0 a_1 own_N1 "occurrenceStarts" "[I" u_8) (pr_F_a_1_occurrences : Fld Z h0 a_1 own_N1 "occurrences" "[I" u_3) (pr_F_a_1_variableCount : Fld Z h0 a_1 own_N1 "variableCount" "I" u_4) (gw_a_1 : n0 ≤ a_1) :
    MetFree l (⟨own_N1, "<init>", "()V"⟩ : MethodName) (head1 (Jvm.Cond.code (⟨own_N1, "<init>", "()V"⟩ : MethodName) prog_6_method_1_code 1 none :: ws) ({ frames := 1, cells := 3, slots := 193, locals := 12 } : Room)) (fun a U => a = #[(.ref a_1)] ∧ Z.Warmed39 U.vm ∧ U.heap = h0) (fun _ _ _ _ _ => True) (fun _ U o U' => ∃ v L, o = .returned v ∧ own_Q1_s1 Z a_1 u_0 u_1 u_2 u_3 u_4 u_5 u_6 u_7 u_8 h0 n0 v U'.heap L ∧ FrameEnd U o U' L ({ frames := 1, cells := 3, slots := 193, locals := 12 } : Room).cells ({ frames := 1, cells := 3, slots := 193, locals := 12 } : Room).slots) := by
  refine MetFree.of_bodySF (plainFor_of_name own_pn0) hisR ?_
  intro p e s m args below meth c s₁ Bd hml0 hP hK
  obtain ⟨rfl, hZ, hh⟩ := hP
  have hx := Bd.exec
  have hby := Bd.bytes
  have hml : c.maxLocals = 1 := hml0
  have hown : s.vm.findClass own_N1 = some m.cls := findClass_of_methodNamed Bd.named
  have hnm := (name_of_methodNamed Bd.named Bd.method).1
  have X0 : Stand p l e ({ frames := 1, cells := 3, slots := 193, locals := 12 } : Room) s m #[(.ref a_1)] below meth c s₁ [] 0 0 := Stand.of_body Bd
  have e0 : s₁.heap = h0 := by rw [← hh, Bd.state]; rfl
  have N0 := Fr.nil n0
  have z0 : n0 ≤ h0.size := Z0
  have z1 := own_lt pr_E_a_1.lt
  have z2 := own_lt pr_F_a_1_bodies.lt
  have z3 := own_lt pr_F_a_1_bodyStarts.lt
  have z4 := own_lt pr_F_a_1_clauseCount.lt
  have z5 := own_lt pr_F_a_1_derivationStarts.lt
  have z6 := own_lt pr_F_a_1_derivations.lt
  have z7 := own_lt pr_F_a_1_heads.lt
  have z8 := own_lt pr_F_a_1_occurrenceStarts.lt
  have z9 := own_lt pr_F_a_1_occurrences.lt
  have z10 := own_lt pr_F_a_1_variableCount.lt
  have K0 : Keep h0 h0 [a_1] := Keep.refl h0 _
  show own_Go p.tables e below (fun t o => t.status = .running ∧ Ended t below o ∧ ∃ v L, o = .returned v ∧ own_Q1_s1 Z a_1 u_0 u_1 u_2 u_3 u_4 u_5 u_6 u_7 u_8 h0 n0 v t.heap L ∧ FrameEnd s o t L ({ frames := 1, cells := 3, slots := 193, locals := 12 } : Room).cells ({ frames := 1, cells := 3, slots := 193, locals := 12 } : Room).slots) s₁ (entryFrame m #[(.ref a_1)] 1)
  rw [own_ef_own_rm1_s1 m a_1]
  show own_Go _ _ _ _ s₁ (mkF m 0 #[.val (.ref a_1)] [])
  refine own_go (fun _ k => XS.aloadN X0.here hx rfl (hb hby own_d1_0) rfl rfl k) ?_
  obtain ⟨T11, X11, e11, st11⟩ := initO X0 hx hZ hown (hw _ (List.mem_of_getElem? (i := 6) rfl)) (hw _ (List.mem_of_getElem? (i := 7) rfl)) (hw _ (List.mem_of_getElem? (i := 8) rfl)) e0 (g := (mkF m 1 #[.val (.ref a_1)] [(.ref a_1)])) rfl (by rw [hml]; rfl) rfl (hb hby own_d1_1) (by decide) (W := 0) (by show 2 * 0 + _ ≤ _; exact Nat.le_of_eq rfl) (by decide)
  refine own_go (fun _ k => st11 _ k) ?_
  show own_Go _ _ _ _ T11 (mkF m 4 #[.val (.ref a_1)] [])
  refine own_go (fun _ k => XS.aloadN X11.here hx rfl (hb hby own_d1_4) rfl rfl (XS.bipush X11.here hx rfl (hb hby own_d1_5) k)) ?_
  obtain ⟨T12, h12, k12, X12, e12, E12, A12, st12⟩ := newP X11 hx hZ (hw _ (List.mem_of_getElem? (i := 9) rfl)) e11 (g := (mkF m 7 #[.val (.ref a_1)] [(.int 64), (.ref a_1)])) rfl (hb hby own_d1_7) rfl (by decide) (cap := 64) (by decide) (by decide) (by decide) (by decide)
  obtain ⟨b12, g12⟩ : ∃ z, z = h0.size := ⟨_, rfl⟩
  rw [← g12] at A12 st12
  have z13 := E12.1
  have lt_b12 := own_lt A12.lt
  have K12 : Keep h0 h12 [a_1] := K0.ext E12
  have V_b12 : own_AV Z h12 b12 .int 64 (fun _ => (.int 0)) := own_AV.new A12 (by decide)
  refine own_go (fun _ k => st12 _ k) ?_
  show own_Go _ _ _ _ T12 (mkF m 9 #[.val (.ref a_1)] [(.ref b12), (.ref a_1)])
  have f14 := (pr_E_a_1.ext E12)
  have f15 := (pr_F_a_1_heads.ext E12)
  obtain ⟨T16, h16, X16, e16, W16, st16⟩ := putF X12 hx hZ hown (host := "") (Or.inl (hw _ (List.mem_of_getElem? (i := 10) rfl))) Via.refl e12 f15 f14 (Or.inl (own_w11 hw)) (own_w1 hw) (ty := (.array .int)) (by decide) rfl rfl (g := (mkF m 9 #[.val (.ref a_1)] [(.ref b12), (.ref a_1)])) rfl rfl (hb hby own_d1_9)
  have z17 := W16.size
  have K16 : Keep h0 h16 [a_1] := K12.wr W16 (Or.inl (List.mem_of_getElem? (i := 0) rfl))
  have N16 := Fr.snoc X16 N0 (by omega : n0 ≤ a_1)
  have Fw16 : Fld Z h16 a_1 own_N1 "heads" "[I" (.ref b12) := Fld.same W16 f15
  refine own_go (fun _ k => st16 _ k) ?_
  show own_Go _ _ _ _ T16 (mkF m 12 #[.val (.ref a_1)] [])
  refine own_go (fun _ k => XS.aloadN X16.here hx rfl (hb hby own_d1_12) rfl rfl (XS.bipush X16.here hx rfl (hb hby own_d1_13) k)) ?_
  obtain ⟨T18, h18, k18, X18, e18, E18, A18, st18⟩ := newP X16 hx hZ (hw _ (List.mem_of_getElem? (i := 9) rfl)) e16 (g := (mkF m 15 #[.val (.ref a_1)] [(.int 65), (.ref a_1)])) rfl (hb hby own_d1_15) rfl (by decide) (cap := 65) (by decide) (by decide) (by decide) (by decide)
  obtain ⟨b18, g18⟩ : ∃ z, z = h16.size := ⟨_, rfl⟩
  rw [← g18] at A18 st18
  have z19 := E18.1
  have lt_b18 := own_lt A18.lt
  have K18 : Keep h0 h18 [a_1] := K16.ext E18
  have V_b18 : own_AV Z h18 b18 .int 65 (fun _ => (.int 0)) := own_AV.new A18 (by decide)
  refine own_go (fun _ k => st18 _ k) ?_
  show own_Go _ _ _ _ T18 (mkF m 17 #[.val (.ref a_1)] [(.ref b18), (.ref a_1)])
  have f20 := ((f14.wr W16).ext E18)
  have f21 := (((pr_F_a_1_bodyStarts.ext E12).other W16 (Or.inr (slot_ne (Or.inl (own_w13 hw)) (Or.inl (own_w11 hw)) (by decide) (t := (.array .int)) (t' := (.array .int)) (by decide) (by decide)))).ext E18)
  obtain ⟨T22, h22, X22, e22, W22, st22⟩ := putF X18 hx hZ hown (host := "") (Or.inl (own_w12 hw)) Via.refl e18 f21 f20 (Or.inl (own_w13 hw)) (own_w1 hw) (ty := (.array .int)) (by decide) rfl rfl (g := (mkF m 17 #[.val (.ref a_1)] [(.ref b18), (.ref a_1)])) rfl rfl (hb hby own_d1_17)
  have z23 := W22.size
  have K22 : Keep h0 h22 [a_1] := K18.wr W22 (Or.inl (List.mem_of_getElem? (i := 0) rfl))
  have N22 := Fr.snoc X22 N16 (by omega : n0 ≤ a_1)
  have Fw22 : Fld Z h22 a_1 own_N1 "bodyStarts" "[I" (.ref b18) := Fld.same W22 f21
  refine own_go (fun _ k => st22 _ k) ?_
  show own_Go _ _ _ _ T22 (mkF m 20 #[.val (.ref a_1)] [])
  refine own_go (fun _ k => XS.aloadN X22.here hx rfl (hb hby own_d1_20) rfl rfl (XS.bipush X22.here hx rfl (hb hby own_d1_21) k)) ?_
  obtain ⟨T24, h24, k24, X24, e24, E24, A24, st24⟩ := newP X22 hx hZ (hw _ (List.mem_of_getElem? (i := 9) rfl)) e22 (g := (mkF m 23 #[.val (.ref a_1)] [(.int 64), (.ref a_1)])) rfl (hb hby own_d1_23) rfl (by decide) (cap := 64) (by decide) (by decide) (by decide) (by decide)
  obtain ⟨b24, g24⟩ : ∃ z, z = h22.size := ⟨_, rfl⟩
  rw [← g24] at A24 st24
  have z25 := E24.1
  have lt_b24 := own_lt A24.lt
  have K24 : Keep h0 h24 [a_1] := K22.ext E24
  have V_b24 : own_AV Z h24 b24 .int 64 (fun _ => (.int 0)) := own_AV.new A24 (by decide)
  refine own_go (fun _ k => st24 _ k) ?_
  show own_Go _ _ _ _ T24 (mkF m 25 #[.val (.ref a_1)] [(.ref b24), (.ref a_1)])
  have f26 := ((f20.wr W22).ext E24)
  have f27 := (((((pr_F_a_1_bodies.ext E12).other W16 (Or.inr (slot_ne (Or.inl (own_w15 hw)) (Or.inl (own_w11 hw)) (by decide) (t := (.array .int)) (t' := (.array .int)) (by decide) (by decide)))).ext E18).other W22 (Or.inr (slot_ne (Or.inl (own_w15 hw)) (Or.inl (own_w13 hw)) (by decide) (t := (.array .int)) (t' := (.array .int)) (by decide) (by decide)))).ext E24)
  obtain ⟨T28, h28, X28, e28, W28, st28⟩ := putF X24 hx hZ hown (host := "") (Or.inl (hw _ (List.mem_of_getElem? (i := 14) rfl))) Via.refl e24 f27 f26 (Or.inl (own_w15 hw)) (own_w1 hw) (ty := (.array .int)) (by decide) rfl rfl (g := (mkF m 25 #[.val (.ref a_1)] [(.ref b24), (.ref a_1)])) rfl rfl (hb hby own_d1_25)
  have z29 := W28.size
  have K28 : Keep h0 h28 [a_1] := K24.wr W28 (Or.inl (List.mem_of_getElem? (i := 0) rfl))
  have N28 := Fr.snoc X28 N22 (by omega : n0 ≤ a_1)
  have Fw28 : Fld Z h28 a_1 own_N1 "bodies" "[I" (.ref b24) := Fld.same W28 f27
  refine own_go (fun _ k => st28 _ k) ?_
  show own_Go _ _ _ _ T28 (mkF m 28 #[.val (.ref a_1)] [])
  obtain ⟨fs, hr, hrun, hended, hW, hsame⟩ := X28.leave (v := none) (fun _ => rfl)
  refine ⟨_, _, X28.returnOut hx Bd.returns (hb hby own_d1_28) hr, hrun, hended, _, _, rfl, ?_, ⟨_, rfl⟩, hW, hsame.mono (by decide) (by decide)⟩
  show own_Q1_s1 Z a_1 u_0 u_1 u_2 u_3 u_4 u_5 u_6 u_7 u_8 h0 n0 _ T28.heap _
  rw [e28]
  have f31 := (f26.wr W28)
  have f32 := ((Fw22.ext E24).other W28 (Or.inr (slot_ne (Or.inl (own_w13 hw)) (Or.inl (own_w15 hw)) (by decide) (t := (.array .int)) (t' := (.array .int)) (by decide) (by decide))))
  have f33 := ((((((pr_F_a_1_clauseCount.ext E12).other W16 (Or.inr (slot_ne (Or.inl (own_w47 hw)) (Or.inl (own_w11 hw)) (by decide) (t := .int) (t' := (.array .int)) (by decide) (by decide)))).ext E18).other W22 (Or.inr (slot_ne (Or.inl (own_w47 hw)) (Or.inl (own_w13 hw)) (by decide) (t := .int) (t' := (.array .int)) (by decide) (by decide)))).ext E24).other W28 (Or.inr (slot_ne (Or.inl (own_w47 hw)) (Or.inl (own_w15 hw)) (by decide) (t := .int) (t' := (.array .int)) (by decide) (by decide))))
  have f34 := ((((((pr_F_a_1_derivationStarts.ext E12).other W16 (Or.inr (slot_ne (Or.inl (own_w105 hw)) (Or.inl (own_w11 hw)) (by decide) (t := (.array .int)) (t' := (.array .int)) (by decide) (by decide)))).ext E18).other W22 (Or.inr (slot_ne (Or.inl (own_w105 hw)) (Or.inl (own_w13 hw)) (by decide) (t := (.array .int)) (t' := (.array .int)) (by decide) (by decide)))).ext E24).other W28 (Or.inr (slot_ne (Or.inl (own_w105 hw)) (Or.inl (own_w15 hw)) (by decide) (t := (.array .int)) (t' := (.array .int)) (by decide) (by decide))))
  have f35 := ((((((pr_F_a_1_derivations.ext E12).other W16 (Or.inr (slot_ne (Or.inl (own_w107 hw)) (Or.inl (own_w11 hw)) (by decide) (t := (.array .int)) (t' := (.array .int)) (by decide) (by decide)))).ext E18).other W22 (Or.inr (slot_ne (Or.inl (own_w107 hw)) (Or.inl (own_w13 hw)) (by decide) (t := (.array .int)) (t' := (.array .int)) (by decide) (by decide)))).ext E24).other W28 (Or.inr (slot_ne (Or.inl (own_w107 hw)) (Or.inl (own_w15 hw)) (by decide) (t := (.array .int)) (t' := (.array .int)) (by decide) (by decide))))
  have f36 := ((((Fw16.ext E18).other W22 (Or.inr (slot_ne (Or.inl (own_w11 hw)) (Or.inl (own_w13 hw)) (by decide) (t := (.array .int)) (t' := (.array .int)) (by decide) (by decide)))).ext E24).other W28 (Or.inr (slot_ne (Or.inl (own_w11 hw)) (Or.inl (own_w15 hw)) (by decide) (t := (.array .int)) (t' := (.array .int)) (by decide) (by decide))))
  have f37 := ((((((pr_F_a_1_occurrenceStarts.ext E12).other W16 (Or.inr (slot_ne (Or.inl (own_w109 hw)) (Or.inl (own_w11 hw)) (by decide) (t := (.array .int)) (t' := (.array .int)) (by decide) (by decide)))).ext E18).other W22 (Or.inr (slot_ne (Or.inl (own_w109 hw)) (Or.inl (own_w13 hw)) (by decide) (t := (.array .int)) (t' := (.array .int)) (by decide) (by decide)))).ext E24).other W28 (Or.inr (slot_ne (Or.inl (own_w109 hw)) (Or.inl (own_w15 hw)) (by decide) (t := (.array .int)) (t' := (.array .int)) (by decide) (by decide))))
  have f38 := ((((((pr_F_a_1_occurrences.ext E12).other W16 (Or.inr (slot_ne (Or.inl (own_w22 hw)) (Or.inl (own_w11 hw)) (by decide) (t := (.array .int)) (t' := (.array .int)) (by decide) (by decide)))).ext E18).other W22 (Or.inr (slot_ne (Or.inl (own_w22 hw)) (Or.inl (own_w13 hw)) (by decide) (t := (.array .int)) (t' := (.array .int)) (by decide) (by decide)))).ext E24).other W28 (Or.inr (slot_ne (Or.inl (own_w22 hw)) (Or.inl (own_w15 hw)) (by decide) (t := (.array .int)) (t' := (.array .int)) (by decide) (by decide))))
  have f39 := ((((((pr_F_a_1_variableCount.ext E12).other W16 (Or.inr (slot_ne (Or.inl (own_w24 hw)) (Or.inl (own_w11 hw)) (by decide) (t := .int) (t' := (.array .int)) (by decide) (by decide)))).ext E18).other W22 (Or.inr (slot_ne (Or.inl (own_w24 hw)) (Or.inl (own_w13 hw)) (by decide) (t := .int) (t' := (.array .int)) (by decide) (by decide)))).ext E24).other W28 (Or.inr (slot_ne (Or.inl (own_w24 hw)) (Or.inl (own_w15 hw)) (by decide) (t := .int) (t' := (.array .int)) (by decide) (by decide))))
  have f40 := (V_b24.other W28 (own_ne (by omega)))
  have f41 := (((V_b18.other W22 (own_ne (by omega))).ext E24).other W28 (own_ne (by omega)))
  have f42 := (((((V_b12.other W16 (own_ne (by omega))).ext E18).other W22 (own_ne (by omega))).ext E24).other W28 (own_ne (by omega)))
  exact ⟨b24, b18, b12, rfl, N28, K28, f31, Fw28, f32, f33, f34, f35, f36, f37, f38, f39, f40, f41, f42, (by omega), (by omega), (by omega), (by simp only [own_lts, and_true]; omega)⟩
theorem own_d4_0 : decode prog_6_method_4_code 0 = .ok (.aload_n 0, 1) := by decide +kernel
theorem own_d4_1 : decode prog_6_method_4_code 1 = .ok (.iload_n 1, 1) := by decide +kernel
theorem own_d4_2 : decode prog_6_method_4_code 2 = .ok (.invokevirtual 26, 3) := by decide +kernel
theorem own_d4_5 : decode prog_6_method_4_code 5 = .ok (.aload_n 2, 1) := by decide +kernel
theorem own_d4_6 : decode prog_6_method_4_code 6 = .ok (.astore_n 3, 1) := by decide +kernel
theorem own_d4_7 : decode prog_6_method_4_code 7 = .ok (.aload_n 3, 1) := by decide +kernel
theorem own_d4_8 : decode prog_6_method_4_code 8 = .ok (.arraylength, 1) := by decide +kernel
theorem own_d4_9 : decode prog_6_method_4_code 9 = .ok (.istore 4, 2) := by decide +kernel
theorem own_d4_11 : decode prog_6_method_4_code 11 = .ok (.iconst 0, 1) := by decide +kernel
theorem own_d4_12 : decode prog_6_method_4_code 12 = .ok (.istore 5, 2) := by decide +kernel
theorem own_d4_14 : decode prog_6_method_4_code 14 = .ok (.iload 5, 2) := by decide +kernel
theorem own_d4_16 : decode prog_6_method_4_code 16 = .ok (.iload 4, 2) := by decide +kernel
theorem own_d4_18 : decode prog_6_method_4_code 18 = .ok (.if_icmp .ge 21, 3) := by decide +kernel
theorem own_d4_21 : decode prog_6_method_4_code 21 = .ok (.aload_n 3, 1) := by decide +kernel
theorem own_d4_22 : decode prog_6_method_4_code 22 = .ok (.iload 5, 2) := by decide +kernel
theorem own_d4_24 : decode prog_6_method_4_code 24 = .ok (.iaload, 1) := by decide +kernel
theorem own_d4_25 : decode prog_6_method_4_code 25 = .ok (.istore 6, 2) := by decide +kernel
theorem own_d4_27 : decode prog_6_method_4_code 27 = .ok (.aload_n 0, 1) := by decide +kernel
theorem own_d4_28 : decode prog_6_method_4_code 28 = .ok (.iload 6, 2) := by decide +kernel
theorem own_d4_30 : decode prog_6_method_4_code 30 = .ok (.invokevirtual 26, 3) := by decide +kernel
theorem own_d4_33 : decode prog_6_method_4_code 33 = .ok (.iinc 5 1, 3) := by decide +kernel
theorem own_d4_36 : decode prog_6_method_4_code 36 = .ok (.goto (-22), 3) := by decide +kernel
theorem own_d4_39 : decode prog_6_method_4_code 39 = .ok (.aload_n 0, 1) := by decide +kernel
theorem own_d4_40 : decode prog_6_method_4_code 40 = .ok (.getfield 30, 3) := by decide +kernel
theorem own_d4_43 : decode prog_6_method_4_code 43 = .ok (.aload_n 0, 1) := by decide +kernel
theorem own_d4_44 : decode prog_6_method_4_code 44 = .ok (.getfield 9, 3) := by decide +kernel
theorem own_d4_47 : decode prog_6_method_4_code 47 = .ok (.arraylength, 1) := by decide +kernel
theorem own_d4_48 : decode prog_6_method_4_code 48 = .ok (.if_icmp .ne 37, 3) := by decide +kernel
theorem own_d4_85 : decode prog_6_method_4_code 85 = .ok (.aload_n 0, 1) := by decide +kernel
theorem own_d4_86 : decode prog_6_method_4_code 86 = .ok (.getfield 13, 3) := by decide +kernel
theorem own_d4_89 : decode prog_6_method_4_code 89 = .ok (.aload_n 0, 1) := by decide +kernel
theorem own_d4_90 : decode prog_6_method_4_code 90 = .ok (.getfield 30, 3) := by decide +kernel
theorem own_d4_93 : decode prog_6_method_4_code 93 = .ok (.iaload, 1) := by decide +kernel
theorem own_d4_94 : decode prog_6_method_4_code 94 = .ok (.istore_n 3, 1) := by decide +kernel
theorem own_d4_95 : decode prog_6_method_4_code 95 = .ok (.iload_n 3, 1) := by decide +kernel
theorem own_d4_96 : decode prog_6_method_4_code 96 = .ok (.aload_n 2, 1) := by decide +kernel
theorem own_d4_97 : decode prog_6_method_4_code 97 = .ok (.arraylength, 1) := by decide +kernel
theorem own_d4_98 : decode prog_6_method_4_code 98 = .ok (.iadd, 1) := by decide +kernel
theorem own_d4_99 : decode prog_6_method_4_code 99 = .ok (.aload_n 0, 1) := by decide +kernel
theorem own_d4_100 : decode prog_6_method_4_code 100 = .ok (.getfield 16, 3) := by decide +kernel
theorem own_d4_103 : decode prog_6_method_4_code 103 = .ok (.arraylength, 1) := by decide +kernel
theorem own_d4_104 : decode prog_6_method_4_code 104 = .ok (.if_icmp .le 28, 3) := by decide +kernel
theorem own_d4_132 : decode prog_6_method_4_code 132 = .ok (.aload_n 2, 1) := by decide +kernel
theorem own_d4_133 : decode prog_6_method_4_code 133 = .ok (.iconst 0, 1) := by decide +kernel
theorem own_d4_134 : decode prog_6_method_4_code 134 = .ok (.aload_n 0, 1) := by decide +kernel
theorem own_d4_135 : decode prog_6_method_4_code 135 = .ok (.getfield 16, 3) := by decide +kernel
theorem own_d4_138 : decode prog_6_method_4_code 138 = .ok (.iload_n 3, 1) := by decide +kernel
theorem own_d4_139 : decode prog_6_method_4_code 139 = .ok (.aload_n 2, 1) := by decide +kernel
theorem own_d4_140 : decode prog_6_method_4_code 140 = .ok (.arraylength, 1) := by decide +kernel
theorem own_d4_141 : decode prog_6_method_4_code 141 = .ok (.invokestatic 45, 3) := by decide +kernel
theorem own_d4_144 : decode prog_6_method_4_code 144 = .ok (.aload_n 0, 1) := by decide +kernel
theorem own_d4_145 : decode prog_6_method_4_code 145 = .ok (.getfield 9, 3) := by decide +kernel
theorem own_d4_148 : decode prog_6_method_4_code 148 = .ok (.aload_n 0, 1) := by decide +kernel
theorem own_d4_149 : decode prog_6_method_4_code 149 = .ok (.getfield 30, 3) := by decide +kernel
theorem own_d4_152 : decode prog_6_method_4_code 152 = .ok (.iload_n 1, 1) := by decide +kernel
theorem own_d4_153 : decode prog_6_method_4_code 153 = .ok (.iastore, 1) := by decide +kernel
theorem own_d4_154 : decode prog_6_method_4_code 154 = .ok (.aload_n 0, 1) := by decide +kernel
theorem own_d4_155 : decode prog_6_method_4_code 155 = .ok (.getfield 13, 3) := by decide +kernel
theorem own_d4_158 : decode prog_6_method_4_code 158 = .ok (.aload_n 0, 1) := by decide +kernel
theorem own_d4_159 : decode prog_6_method_4_code 159 = .ok (.getfield 30, 3) := by decide +kernel
theorem own_d4_162 : decode prog_6_method_4_code 162 = .ok (.iconst 1, 1) := by decide +kernel
theorem own_d4_163 : decode prog_6_method_4_code 163 = .ok (.iadd, 1) := by decide +kernel
theorem own_d4_164 : decode prog_6_method_4_code 164 = .ok (.iload_n 3, 1) := by decide +kernel
theorem own_d4_165 : decode prog_6_method_4_code 165 = .ok (.aload_n 2, 1) := by decide +kernel
theorem own_d4_166 : decode prog_6_method_4_code 166 = .ok (.arraylength, 1) := by decide +kernel
theorem own_d4_167 : decode prog_6_method_4_code 167 = .ok (.iadd, 1) := by decide +kernel
theorem own_d4_168 : decode prog_6_method_4_code 168 = .ok (.iastore, 1) := by decide +kernel
theorem own_d4_169 : decode prog_6_method_4_code 169 = .ok (.aload_n 0, 1) := by decide +kernel
theorem own_d4_170 : decode prog_6_method_4_code 170 = .ok (.dup, 1) := by decide +kernel
theorem own_d4_171 : decode prog_6_method_4_code 171 = .ok (.getfield 30, 3) := by decide +kernel
theorem own_d4_174 : decode prog_6_method_4_code 174 = .ok (.iconst 1, 1) := by decide +kernel
theorem own_d4_175 : decode prog_6_method_4_code 175 = .ok (.iadd, 1) := by decide +kernel
theorem own_d4_176 : decode prog_6_method_4_code 176 = .ok (.putfield 30, 3) := by decide +kernel
theorem own_d4_179 : decode prog_6_method_4_code 179 = .ok (.aload_n 0, 1) := by decide +kernel
theorem own_d4_180 : decode prog_6_method_4_code 180 = .ok (.aconst_null, 1) := by decide +kernel
theorem own_d4_181 : decode prog_6_method_4_code 181 = .ok (.putfield 19, 3) := by decide +kernel
theorem own_d4_184 : decode prog_6_method_4_code 184 = .ok (.return_, 1) := by decide +kernel
theorem own_ef_own_rm4_s1 (m : MethodId) (x0 : Addr) (x2 : Addr) : entryFrame m #[(.ref x0), (.int 1), (.ref x2)] 7 = mkF m 0 #[.val (.ref x0), .val (.int 1), .val (.ref x2), .unset, .unset, .unset, .unset] [] := by first | (simp [entryFrame, mkF, argsToLocals, Value.category]; done) | rfl
def own_Q4_s1 (Z : State) (a_1 : Addr) (a_3 : Addr) (ob0 : Addr) (ob1 : Addr) (ob2 : Addr) (u_0 : Value) (u_1 : Value) (u_2 : Value) (u_3 : Value) (h0 : Heap) (n0 : Nat) (v : Option Value) (h : Heap) (L : List Loc) : Prop := v = none ∧ Fr n0 L ∧ Keep h0 h [ob2, ob0, ob1, a_1] ∧ own_AV Z h ob2 .int 64 (own_upd (fun _ => (.int 0)) 0 (.int 0)) ∧ own_AV Z h ob0 .int 64 (own_upd (fun _ => (.int 0)) 0 (.int 1)) ∧ own_AV Z h ob1 .int 65 (own_upd (fun _ => (.int 0)) 1 (.int 1)) ∧ Exa Z h a_1 own_N1 ∧ Fld Z h a_1 own_N1 "bodies" "[I" (.ref ob2) ∧ Fld Z h a_1 own_N1 "bodyStarts" "[I" (.ref ob1) ∧ Fld Z h a_1 own_N1 "clauseCount" "I" (.int 1) ∧ Fld Z h a_1 own_N1 "derivationStarts" "[I" u_1 ∧ Fld Z h a_1 own_N1 "derivations" "[I" u_2 ∧ Fld Z h a_1 own_N1 "heads" "[I" (.ref ob0) ∧ Fld Z h a_1 own_N1 "occurrenceStarts" "[I" u_3 ∧ Fld Z h a_1 own_N1 "occurrences" "[I" .null ∧ Fld Z h a_1 own_N1 "variableCount" "I" (.int 2)
set_option maxRecDepth 65536 in
set_option maxHeartbeats 40000000 in
theorem own_rm4_s1 (l : Launch) (Z : State) (a0 : Array Value) (hw : ∀ d ∈ tables_1, d.before a0 Z = true) (ws : List Jvm.Cond) (a_1 : Addr) (a_3 : Addr) (ob0 : Addr) (ob1 : Addr) (ob2 : Addr) (u_0 : Value) (u_1 : Value) (u_2 : Value) (u_3 : Value) (h0 : Heap) (n0 : Nat) (Z0 : n0 ≤ h0.size) (pr_A_a_3 : own_AV Z h0 a_3 .int 1 (own_upd (fun _ => (.int 0)) 0 (.int 0))) (pr_A_ob0 : own_AV Z h0 ob0 .int 64 (fun _ => (.int 0))) (pr_A_ob1 : own_AV Z h0 ob1 .int 65 (fun _ => (.int 0))) (pr_A_ob2 : own_AV Z h0 ob2 .int 64 (fun _ => (.int 0))) (pr_E_a_1 : Exa Z h0 a_1 own_N1) (pr_F_a_1_bodies : Fld Z h0 a_1 own_N1 "bodies" "[I" (.ref ob2)) (pr_F_a_1_bodyStarts : Fld Z h0 a_1 own_N1 "bodyStarts" "[I" (.ref ob1)) (pr_F_a_1_clauseCount : Fld Z h0 a_1 own_N1 "clauseCount" "I" (.int 0)) (pr_F_a_1_derivationStarts : Fld Z h0 a_1 own_N1 "derivationStarts" "[I" u_1) (pr_F_a_1_derivations : Fld Z h0 a_1 own_N1 "derivations" "[I" u_2) (pr_F_a_1_heads : Fld Z h0 a_1 own_N1 "heads" "[I" (.ref ob0)) (pr_F_a_1_occurrenceStarts : Fld Z h0 a_1 own_N1 "occurrenceStarts" "[I" u_3) (pr_F_a_1_occurrences : Fld Z h0 a_1 own_N1 "occurrences" "[I" u_0) (pr_F_a_1_variableCount : Fld Z h0 a_1 own_N1 "variableCount" "I" (.int 2)) (ho_ : own_lts [a_1, ob0, ob1, ob2, a_3]) (gw_ob2 : n0 ≤ ob2) (gw_ob0 : n0 ≤ ob0) (gw_ob1 : n0 ≤ ob1) (gw_a_1 : n0 ≤ a_1) :
    MetFree l (⟨own_N1, "add", "(I[I)V"⟩ : MethodName) (head1 (Jvm.Cond.code (⟨own_N1, "add", "(I[I)V"⟩ : MethodName) prog_6_method_4_code 7 none :: ws) ({ frames := 2, cells := 4, slots := 72, locals := 40 } : Room)) (fun a U => a = #[(.ref a_1), (.int 1), (.ref a_3)] ∧ Z.Warmed39 U.vm ∧ U.heap = h0) (fun _ _ _ _ _ => True) (fun _ U o U' => ∃ v L, o = .returned v ∧ own_Q4_s1 Z a_1 a_3 ob0 ob1 ob2 u_0 u_1 u_2 u_3 h0 n0 v U'.heap L ∧ ReturnedEndW U o U' L ({ frames := 2, cells := 4, slots := 72, locals := 40 } : Room).cells ({ frames := 2, cells := 4, slots := 72, locals := 40 } : Room).slots) := by
  refine MetFree.of_bodySF (plainFor_of_name own_pn0) hisR ?_
  intro p e s m args below meth c s₁ Bd hml0 hP hK
  obtain ⟨rfl, hZ, hh⟩ := hP
  have hx := Bd.exec
  have hby := Bd.bytes
  have hml : c.maxLocals = 7 := hml0
  have hown : s.vm.findClass own_N1 = some m.cls := findClass_of_methodNamed Bd.named
  have hnm := (name_of_methodNamed Bd.named Bd.method).1
  have X0 : Stand p l e ({ frames := 2, cells := 4, slots := 72, locals := 40 } : Room) s m #[(.ref a_1), (.int 1), (.ref a_3)] below meth c s₁ [] 0 0 := Stand.of_body Bd
  have e0 : s₁.heap = h0 := by rw [← hh, Bd.state]; rfl
  have N0 := Fr.nil n0
  have X0 : Stand p l e ({ frames := 2, cells := 4, slots := 72, locals := 40 } : Room) (s.setVm s.vm) m #[(.ref a_1), (.int 1), (.ref a_3)] below meth c s₁ [] 0 0 := X0
  have hZ : Z.Warmed39 (s.setVm s.vm).vm := hZ
  have hown : (s.setVm s.vm).vm.findClass own_N1 = some m.cls := hown
  have hS0 : s.Since s.vm 0 := (State.WarmedH.refl s).since 0
  have z0 : n0 ≤ h0.size := Z0
  have z1 := own_lt pr_A_a_3.lt
  have z2 := own_lt pr_A_ob0.lt
  have z3 := own_lt pr_A_ob1.lt
  have z4 := own_lt pr_A_ob2.lt
  have z5 := own_lt pr_E_a_1.lt
  have z6 := own_lt pr_F_a_1_bodies.lt
  have z7 := own_lt pr_F_a_1_bodyStarts.lt
  have z8 := own_lt pr_F_a_1_clauseCount.lt
  have z9 := own_lt pr_F_a_1_derivationStarts.lt
  have z10 := own_lt pr_F_a_1_derivations.lt
  have z11 := own_lt pr_F_a_1_heads.lt
  have z12 := own_lt pr_F_a_1_occurrenceStarts.lt
  have z13 := own_lt pr_F_a_1_occurrences.lt
  have z14 := own_lt pr_F_a_1_variableCount.lt
  have ho15 := ho_
  simp only [own_lts, and_true] at ho15
  have K0 : Keep h0 h0 [ob2, ob0, ob1, a_1] := Keep.refl h0 _
  show own_Go p.tables e below (fun t o => t.status = .running ∧ Ended t below o ∧ ∃ v L, o = .returned v ∧ own_Q4_s1 Z a_1 a_3 ob0 ob1 ob2 u_0 u_1 u_2 u_3 h0 n0 v t.heap L ∧ ReturnedEndW s o t L ({ frames := 2, cells := 4, slots := 72, locals := 40 } : Room).cells ({ frames := 2, cells := 4, slots := 72, locals := 40 } : Room).slots) s₁ (entryFrame m #[(.ref a_1), (.int 1), (.ref a_3)] 7)
  rw [own_ef_own_rm4_s1 m a_1 a_3]
  show own_Go _ _ _ _ s₁ (mkF m 0 #[.val (.ref a_1), .val (.int 1), .val (.ref a_3), .unset, .unset, .unset, .unset] [])
  refine own_go (fun _ k => XS.aloadN X0.here hx rfl (hb hby own_d4_0) rfl rfl (XS.iloadN X0.here hx rfl (hb hby own_d4_1) rfl k)) ?_
  obtain ⟨cq16, kq16, q16a, q16b, q16c⟩ := isOf hZ e0 pr_E_a_1
  obtain ⟨_, _, ⟨T16, L16, k16, n16⟩, -, X16, hS16, gr16, ⟨Lc16, hQ16, l16, y16, z16⟩, st16⟩ := X0.virtualBackS hx (y := (⟨own_N1, "checkVariable", "(I)V"⟩ : MethodName)) (z := (⟨own_N1, "checkVariable", "(I)V"⟩ : MethodName)) hown (mvT hZ (hw _ (List.mem_of_getElem? (i := 30) rfl))) (mvT hZ (hw _ (List.mem_of_getElem? (i := 31) rfl))) (notFace_of_selects (args := #[]) (mvT hZ (own_w33 hw))) (mvT hZ (own_w33 hw)) (mvT hZ (hw _ (List.mem_of_getElem? (i := 32) rfl))) (by decide) (backOfS (W := 0) (own_rm5 l Z a0 hw [] a_1 (1 : Int32) (2 : Int32) h0 n0 (by omega) (show ¬ ((1 : Int32) < 0) by first | assumption | omega | decide) (show (1 : Int32) < (2 : Int32) by first | assumption | omega | decide) pr_F_a_1_variableCount) hZ (hw _ (List.mem_of_getElem? (i := 34) rfl)) (own_w2 hw) (by decide) (by decide)) q16a q16c (g := (mkF m 2 #[.val (.ref a_1), .val (.int 1), .val (.ref a_3), .unset, .unset, .unset, .unset] [(.int 1), (.ref a_1)])) rfl (by rw [hml]; rfl) (Steps.refl _) (argsL := [(.int 1)]) (rest := []) (lenOf own_pd3 rfl) rfl (by show 2 * 0 + _ ≤ _; exact Nat.le_of_eq rfl) (hb hby own_d4_2) (fun _ _ => ⟨rfl, e0, (by decide : 0 + 2 ≤ _), (by decide : 0 + 36 ≤ _)⟩)
  dsimp only [Pt.U, Pt.locs, Pt.cells, Pt.slots] at X16 l16 y16 z16 st16 hQ16 hS16 gr16
  have y16 : k16 = 2 := y16
  have z16 : n16 = 36 := z16
  have Wn16 := hS16.1
  obtain ⟨X16, hS16, hZ, hown⟩ := rebS hS0 (n1 := s₁.heap.size) (by rw [e0]; omega) X16 hS16 gr16 hZ hown
  obtain ⟨rfl, N16q, K16q⟩ := hQ16
  have N16 : Fr n0 L16 := by rw [l16]; exact Fr.app N0 N16q
  have z17 := K16q.1
  have K16 : Keep h0 T16.heap [ob2, ob0, ob1, a_1] := K0.trans K16q all0
  refine own_go (fun _ k => st16.trans k) ?_
  show own_Go _ _ _ _ T16 (mkF m 5 #[.val (.ref a_1), .val (.int 1), .val (.ref a_3), .unset, .unset, .unset, .unset] [])
  refine own_go (fun _ k => XS.aloadN X16.here hx rfl (hb hby own_d4_5) rfl rfl (XS.astoreN X16.here hx rfl (hb hby own_d4_6) rfl rfl (l' := #[.val (.ref a_1), .val (.int 1), .val (.ref a_3), .val (.ref a_3), .unset, .unset, .unset]) rfl (XS.aloadN X16.here hx rfl (hb hby own_d4_7) rfl rfl k))) ?_
  have f18 := (pr_A_a_3.keep K16q nin0)
  obtain ⟨q19, c19, R19, s19, t19⟩ := id f18
  refine own_go (fun _ k => X16.arraylength hx R19.1 (State.isArrayOf_alike hZ.alike R19.2.1) (g := (mkF m 8 #[.val (.ref a_1), .val (.int 1), .val (.ref a_3), .val (.ref a_3), .unset, .unset, .unset] [(.ref a_3)])) rfl rfl (hb hby own_d4_8) _ k) ?_
  rw [len_of s19 q19]
  show own_Go _ _ _ _ T16 (mkF m 9 #[.val (.ref a_1), .val (.int 1), .val (.ref a_3), .val (.ref a_3), .unset, .unset, .unset] [(.int 1)])
  refine own_go (fun _ k => XS.istore X16.here hx rfl (hb hby own_d4_9) rfl (l' := #[.val (.ref a_1), .val (.int 1), .val (.ref a_3), .val (.ref a_3), .val (.int 1), .unset, .unset]) rfl (XS.iconst X16.here hx rfl (hb hby own_d4_11) (XS.istore X16.here hx rfl (hb hby own_d4_12) rfl (l' := #[.val (.ref a_1), .val (.int 1), .val (.ref a_3), .val (.ref a_3), .val (.int 1), .val (.int 0), .unset]) rfl (XS.iload X16.here hx rfl (hb hby own_d4_14) rfl k)))) ?_
  show own_Go _ _ _ _ T16 (mkF m 16 #[.val (.ref a_1), .val (.int 1), .val (.ref a_3), .val (.ref a_3), .val (.int 1), .val (.int 0), .unset] [(.int 0)])
  refine own_go (fun _ k => XS.iload X16.here hx rfl (hb hby own_d4_16) rfl k) ?_
  have hc20 : (0 : Int32) < (1 : Int32) := by decide
  refine own_go (fun _ k => XS.icmpNo X16.here hx rfl (hb hby own_d4_18) rfl (Jvm.Free.XT.ii_ge_f hc20) (XS.aloadN X16.here hx rfl (hb hby own_d4_21) rfl rfl (XS.iload X16.here hx rfl (hb hby own_d4_22) rfl k))) ?_
  obtain ⟨q21, c21, R21, s21, t21⟩ := id f18
  have hin21 : ¬ ((0 : Int32) < 0 ∨ c21.slots.size ≤ ((0 : Int32)).toNatClampNeg) := inb_of s21 ⟨by decide, by decide⟩
  have u21 : c21.slots[((0 : Int32)).toNatClampNeg]? = some (.int 0) := own_at (k := 0) t21 s21 hin21 (by decide) (rfl)
  refine own_go (fun _ k => X16.iaload hx (j := (0 : Int32)) (v := (.int 0)) R21.1 (State.isArrayOf_alike hZ.alike R21.2.1) R21.2.2 hin21 u21 (g := (mkF m 24 #[.val (.ref a_1), .val (.int 1), .val (.ref a_3), .val (.ref a_3), .val (.int 1), .val (.int 0), .unset] [(.int 0), (.ref a_3)])) rfl rfl (hb hby own_d4_24) _ k) ?_
  show own_Go _ _ _ _ T16 (mkF m 25 #[.val (.ref a_1), .val (.int 1), .val (.ref a_3), .val (.ref a_3), .val (.int 1), .val (.int 0), .unset] [(.int 0)])
  refine own_go (fun _ k => XS.istore X16.here hx rfl (hb hby own_d4_25) rfl (l' := #[.val (.ref a_1), .val (.int 1), .val (.ref a_3), .val (.ref a_3), .val (.int 1), .val (.int 0), .val (.int 0)]) rfl (XS.aloadN X16.here hx rfl (hb hby own_d4_27) rfl rfl (XS.iload X16.here hx rfl (hb hby own_d4_28) rfl k))) ?_
  have f22 := (pr_F_a_1_variableCount.keep K16q nin0)
  have f24 := (pr_E_a_1.keep K16q)
  obtain ⟨cq23, kq23, q23a, q23b, q23c⟩ := isOf hZ rfl f24
  obtain ⟨_, _, ⟨T23, L23, k23, n23⟩, -, X23, hS23, gr23, ⟨Lc23, hQ23, l23, y23, z23⟩, st23⟩ := X16.virtualBackS hx (y := (⟨own_N1, "checkVariable", "(I)V"⟩ : MethodName)) (z := (⟨own_N1, "checkVariable", "(I)V"⟩ : MethodName)) hown (mvT hZ (hw _ (List.mem_of_getElem? (i := 30) rfl))) (mvT hZ (hw _ (List.mem_of_getElem? (i := 31) rfl))) (notFace_of_selects (args := #[]) (mvT hZ (own_w33 hw))) (mvT hZ (own_w33 hw)) (mvT hZ (hw _ (List.mem_of_getElem? (i := 32) rfl))) (by decide) (backOfS (W := 0) (own_rm5 l Z a0 hw [] a_1 (0 : Int32) (2 : Int32) T16.heap n0 (by omega) (show ¬ ((0 : Int32) < 0) by first | assumption | omega | decide) (show (0 : Int32) < (2 : Int32) by first | assumption | omega | decide) f22) hZ (hw _ (List.mem_of_getElem? (i := 34) rfl)) (own_w2 hw) (by decide) (by decide)) q23a q23c (g := (mkF m 30 #[.val (.ref a_1), .val (.int 1), .val (.ref a_3), .val (.ref a_3), .val (.int 1), .val (.int 0), .val (.int 0)] [(.int 0), (.ref a_1)])) rfl (by rw [hml]; rfl) (Steps.refl _) (argsL := [(.int 0)]) (rest := []) (lenOf own_pd3 rfl) rfl (by show 2 * 0 + _ ≤ _; exact Nat.le_of_eq rfl) (hb hby own_d4_30) (fun _ _ => ⟨rfl, rfl, (by show k16 + _ ≤ _; rw [y16]; decide), (by show n16 + _ ≤ _; rw [z16]; decide)⟩)
  dsimp only [Pt.U, Pt.locs, Pt.cells, Pt.slots] at X23 l23 y23 z23 st23 hQ23 hS23 gr23
  have y23 : k23 = 4 := own_addeq y23 (congrArg (fun q => q) y16) rfl
  have z23 : n23 = 72 := own_addeq z23 (congrArg (fun q => q) z16) rfl
  have Wn23 := hS23.1
  obtain ⟨X23, hS23, hZ, hown⟩ := rebS hS16 (n1 := T16.heap.size) (by omega) X23 hS23 gr23 hZ hown
  obtain ⟨rfl, N23q, K23q⟩ := hQ23
  have N23 : Fr n0 L23 := by rw [l23]; exact Fr.app N16 N23q
  have z25 := K23q.1
  have K23 : Keep h0 T23.heap [ob2, ob0, ob1, a_1] := K16.trans K23q all0
  refine own_go (fun _ k => st23.trans k) ?_
  show own_Go _ _ _ _ T23 (mkF m 33 #[.val (.ref a_1), .val (.int 1), .val (.ref a_3), .val (.ref a_3), .val (.int 1), .val (.int 0), .val (.int 0)] [])
  refine own_go (fun _ k => XS.iinc X23.here hx rfl (hb hby own_d4_33) rfl (l' := #[.val (.ref a_1), .val (.int 1), .val (.ref a_3), .val (.ref a_3), .val (.int 1), .val (.int 1), .val (.int 0)]) rfl (XS.goto X23.here hx rfl (pc0 := 36) (pc' := 14) rfl (hb hby own_d4_36) (by decide) (by decide) (XS.iload X23.here hx rfl (hb hby own_d4_14) rfl (XS.iload X23.here hx rfl (hb hby own_d4_16) rfl k)))) ?_
  show own_Go _ _ _ _ T23 (mkF m 18 #[.val (.ref a_1), .val (.int 1), .val (.ref a_3), .val (.ref a_3), .val (.int 1), .val (.int 1), .val (.int 0)] [(.int 1), (.int 1)])
  have hc26 : ¬ ((1 : Int32) < (1 : Int32)) := by decide
  refine own_go (fun _ k => XS.icmpYes X23.here hx rfl (pc0 := 18) (pc' := 39) rfl (hb hby own_d4_18) rfl (Jvm.Free.XT.ii_ge_t hc26) (by decide) (by decide) (XS.aloadN X23.here hx rfl (hb hby own_d4_39) rfl rfl k)) ?_
  have f27 := ((pr_F_a_1_clauseCount.keep K16q nin0).keep K23q nin0)
  obtain ⟨T28, X28, e28, st28⟩ := getF X23 hx hZ hown (host := "") (Or.inl (own_w46 hw)) Via.refl rfl f27 (g := (mkF m 40 #[.val (.ref a_1), .val (.int 1), .val (.ref a_3), .val (.ref a_3), .val (.int 1), .val (.int 1), .val (.int 0)] [(.ref a_1)])) rfl rfl (hb hby own_d4_40)
  refine own_go (fun _ k => st28 _ k) ?_
  show own_Go _ _ _ _ T28 (mkF m 43 #[.val (.ref a_1), .val (.int 1), .val (.ref a_3), .val (.ref a_3), .val (.int 1), .val (.int 1), .val (.int 0)] [(.int 0)])
  refine own_go (fun _ k => XS.aloadN X28.here hx rfl (hb hby own_d4_43) rfl rfl k) ?_
  have f29 := ((pr_F_a_1_heads.keep K16q nin0).keep K23q nin0)
  obtain ⟨T30, X30, e30, st30⟩ := getF X28 hx hZ hown (host := "") (Or.inl (hw _ (List.mem_of_getElem? (i := 10) rfl))) Via.refl e28 f29 (g := (mkF m 44 #[.val (.ref a_1), .val (.int 1), .val (.ref a_3), .val (.ref a_3), .val (.int 1), .val (.int 1), .val (.int 0)] [(.ref a_1), (.int 0)])) rfl rfl (hb hby own_d4_44)
  refine own_go (fun _ k => st30 _ k) ?_
  show own_Go _ _ _ _ T30 (mkF m 47 #[.val (.ref a_1), .val (.int 1), .val (.ref a_3), .val (.ref a_3), .val (.int 1), .val (.int 1), .val (.int 0)] [(.ref ob0), (.int 0)])
  have f31 := ((pr_A_ob0.keep K16q nin0).keep K23q nin0)
  obtain ⟨q32, c32, R32, s32, t32⟩ := id f31
  refine own_go (fun _ k => X30.arraylength hx (by rw [e30]; exact R32.1) (State.isArrayOf_alike hZ.alike R32.2.1) (g := (mkF m 47 #[.val (.ref a_1), .val (.int 1), .val (.ref a_3), .val (.ref a_3), .val (.int 1), .val (.int 1), .val (.int 0)] [(.ref ob0), (.int 0)])) rfl rfl (hb hby own_d4_47) _ k) ?_
  rw [len_of s32 q32]
  show own_Go _ _ _ _ T30 (mkF m 48 #[.val (.ref a_1), .val (.int 1), .val (.ref a_3), .val (.ref a_3), .val (.int 1), .val (.int 1), .val (.int 0)] [(.int 64), (.int 0)])
  have hc33 : ¬ ((0 : Int32) = (64 : Int32)) := by decide
  refine own_go (fun _ k => XS.icmpYes X30.here hx rfl (pc0 := 48) (pc' := 85) rfl (hb hby own_d4_48) rfl (Jvm.Free.XT.ii_ne_t hc33) (by decide) (by decide) (XS.aloadN X30.here hx rfl (hb hby own_d4_85) rfl rfl k)) ?_
  have f34 := ((pr_F_a_1_bodyStarts.keep K16q nin0).keep K23q nin0)
  obtain ⟨T35, X35, e35, st35⟩ := getF X30 hx hZ hown (host := "") (Or.inl (own_w12 hw)) Via.refl e30 f34 (g := (mkF m 86 #[.val (.ref a_1), .val (.int 1), .val (.ref a_3), .val (.ref a_3), .val (.int 1), .val (.int 1), .val (.int 0)] [(.ref a_1)])) rfl rfl (hb hby own_d4_86)
  refine own_go (fun _ k => st35 _ k) ?_
  show own_Go _ _ _ _ T35 (mkF m 89 #[.val (.ref a_1), .val (.int 1), .val (.ref a_3), .val (.ref a_3), .val (.int 1), .val (.int 1), .val (.int 0)] [(.ref ob1)])
  refine own_go (fun _ k => XS.aloadN X35.here hx rfl (hb hby own_d4_89) rfl rfl k) ?_
  obtain ⟨T36, X36, e36, st36⟩ := getF X35 hx hZ hown (host := "") (Or.inl (own_w46 hw)) Via.refl e35 f27 (g := (mkF m 90 #[.val (.ref a_1), .val (.int 1), .val (.ref a_3), .val (.ref a_3), .val (.int 1), .val (.int 1), .val (.int 0)] [(.ref a_1), (.ref ob1)])) rfl rfl (hb hby own_d4_90)
  refine own_go (fun _ k => st36 _ k) ?_
  show own_Go _ _ _ _ T36 (mkF m 93 #[.val (.ref a_1), .val (.int 1), .val (.ref a_3), .val (.ref a_3), .val (.int 1), .val (.int 1), .val (.int 0)] [(.int 0), (.ref ob1)])
  have f37 := ((pr_A_ob1.keep K16q nin0).keep K23q nin0)
  obtain ⟨q38, c38, R38, s38, t38⟩ := id f37
  have hin38 : ¬ ((0 : Int32) < 0 ∨ c38.slots.size ≤ ((0 : Int32)).toNatClampNeg) := inb_of s38 ⟨by decide, by decide⟩
  have u38 : c38.slots[((0 : Int32)).toNatClampNeg]? = some (.int 0) := own_at (k := 0) t38 s38 hin38 (by decide) (rfl)
  refine own_go (fun _ k => X36.iaload hx (j := (0 : Int32)) (v := (.int 0)) (by rw [e36]; exact R38.1) (State.isArrayOf_alike hZ.alike R38.2.1) R38.2.2 hin38 u38 (g := (mkF m 93 #[.val (.ref a_1), .val (.int 1), .val (.ref a_3), .val (.ref a_3), .val (.int 1), .val (.int 1), .val (.int 0)] [(.int 0), (.ref ob1)])) rfl rfl (hb hby own_d4_93) _ k) ?_
  show own_Go _ _ _ _ T36 (mkF m 94 #[.val (.ref a_1), .val (.int 1), .val (.ref a_3), .val (.ref a_3), .val (.int 1), .val (.int 1), .val (.int 0)] [(.int 0)])
  refine own_go (fun _ k => XS.istoreN X36.here hx rfl (hb hby own_d4_94) rfl (l' := #[.val (.ref a_1), .val (.int 1), .val (.ref a_3), .val (.int 0), .val (.int 1), .val (.int 1), .val (.int 0)]) rfl (XS.iloadN X36.here hx rfl (hb hby own_d4_95) rfl (XS.aloadN X36.here hx rfl (hb hby own_d4_96) rfl rfl k))) ?_
  have f39 := (f18.keep K23q nin0)
  obtain ⟨q40, c40, R40, s40, t40⟩ := id f39
  refine own_go (fun _ k => X36.arraylength hx (by rw [e36]; exact R40.1) (State.isArrayOf_alike hZ.alike R40.2.1) (g := (mkF m 97 #[.val (.ref a_1), .val (.int 1), .val (.ref a_3), .val (.int 0), .val (.int 1), .val (.int 1), .val (.int 0)] [(.ref a_3), (.int 0)])) rfl rfl (hb hby own_d4_97) _ k) ?_
  rw [len_of s40 q40]
  show own_Go _ _ _ _ T36 (mkF m 98 #[.val (.ref a_1), .val (.int 1), .val (.ref a_3), .val (.int 0), .val (.int 1), .val (.int 1), .val (.int 0)] [(.int 1), (.int 0)])
  refine own_go (fun _ k => XS.iadd X36.here hx rfl (hb hby own_d4_98) rfl (XS.aloadN X36.here hx rfl (hb hby own_d4_99) rfl rfl k)) ?_
  have f41 := ((pr_F_a_1_bodies.keep K16q nin0).keep K23q nin0)
  obtain ⟨T42, X42, e42, st42⟩ := getF X36 hx hZ hown (host := "") (Or.inl (hw _ (List.mem_of_getElem? (i := 14) rfl))) Via.refl e36 f41 (g := (mkF m 100 #[.val (.ref a_1), .val (.int 1), .val (.ref a_3), .val (.int 0), .val (.int 1), .val (.int 1), .val (.int 0)] [(.ref a_1), (.int 1)])) rfl rfl (hb hby own_d4_100)
  refine own_go (fun _ k => st42 _ k) ?_
  show own_Go _ _ _ _ T42 (mkF m 103 #[.val (.ref a_1), .val (.int 1), .val (.ref a_3), .val (.int 0), .val (.int 1), .val (.int 1), .val (.int 0)] [(.ref ob2), (.int 1)])
  have f43 := ((pr_A_ob2.keep K16q nin0).keep K23q nin0)
  obtain ⟨q44, c44, R44, s44, t44⟩ := id f43
  refine own_go (fun _ k => X42.arraylength hx (by rw [e42]; exact R44.1) (State.isArrayOf_alike hZ.alike R44.2.1) (g := (mkF m 103 #[.val (.ref a_1), .val (.int 1), .val (.ref a_3), .val (.int 0), .val (.int 1), .val (.int 1), .val (.int 0)] [(.ref ob2), (.int 1)])) rfl rfl (hb hby own_d4_103) _ k) ?_
  rw [len_of s44 q44]
  show own_Go _ _ _ _ T42 (mkF m 104 #[.val (.ref a_1), .val (.int 1), .val (.ref a_3), .val (.int 0), .val (.int 1), .val (.int 1), .val (.int 0)] [(.int 64), (.int 1)])
  have hc45 : ¬ ((64 : Int32) < (1 : Int32)) := by decide
  refine own_go (fun _ k => XS.icmpYes X42.here hx rfl (pc0 := 104) (pc' := 132) rfl (hb hby own_d4_104) rfl (Jvm.Free.XT.ii_le_t hc45) (by decide) (by decide) (XS.aloadN X42.here hx rfl (hb hby own_d4_132) rfl rfl (XS.iconst X42.here hx rfl (hb hby own_d4_133) (XS.aloadN X42.here hx rfl (hb hby own_d4_134) rfl rfl k)))) ?_
  show own_Go _ _ _ _ T42 (mkF m 135 #[.val (.ref a_1), .val (.int 1), .val (.ref a_3), .val (.int 0), .val (.int 1), .val (.int 1), .val (.int 0)] [(.ref a_1), (.int 0), (.ref a_3)])
  obtain ⟨T46, X46, e46, st46⟩ := getF X42 hx hZ hown (host := "") (Or.inl (hw _ (List.mem_of_getElem? (i := 14) rfl))) Via.refl e42 f41 (g := (mkF m 135 #[.val (.ref a_1), .val (.int 1), .val (.ref a_3), .val (.int 0), .val (.int 1), .val (.int 1), .val (.int 0)] [(.ref a_1), (.int 0), (.ref a_3)])) rfl rfl (hb hby own_d4_135)
  refine own_go (fun _ k => st46 _ k) ?_
  show own_Go _ _ _ _ T46 (mkF m 138 #[.val (.ref a_1), .val (.int 1), .val (.ref a_3), .val (.int 0), .val (.int 1), .val (.int 1), .val (.int 0)] [(.ref ob2), (.int 0), (.ref a_3)])
  refine own_go (fun _ k => XS.iloadN X46.here hx rfl (hb hby own_d4_138) rfl (XS.aloadN X46.here hx rfl (hb hby own_d4_139) rfl rfl k)) ?_
  obtain ⟨q47, c47, R47, s47, t47⟩ := id f39
  refine own_go (fun _ k => X46.arraylength hx (by rw [e46]; exact R47.1) (State.isArrayOf_alike hZ.alike R47.2.1) (g := (mkF m 140 #[.val (.ref a_1), .val (.int 1), .val (.ref a_3), .val (.int 0), .val (.int 1), .val (.int 1), .val (.int 0)] [(.ref a_3), (.int 0), (.ref ob2), (.int 0), (.ref a_3)])) rfl rfl (hb hby own_d4_140) _ k) ?_
  rw [len_of s47 q47]
  show own_Go _ _ _ _ T46 (mkF m 141 #[.val (.ref a_1), .val (.int 1), .val (.ref a_3), .val (.int 0), .val (.int 1), .val (.int 1), .val (.int 0)] [(.int 1), (.int 0), (.ref ob2), (.int 0), (.ref a_3)])
  obtain ⟨T48, h48, L48, X48, e48, N48, Kq48, V48, st48⟩ := own_cp X46 hx hZ hown (hw _ (List.mem_of_getElem? (i := 48) rfl)) (hw _ (List.mem_of_getElem? (i := 51) rfl)) (hw _ (List.mem_of_getElem? (i := 49) rfl)) (hw _ (List.mem_of_getElem? (i := 50) rfl)) e46 f39 f43 (own_updf (fun _ => rfl) rfl) (fun _ => rfl) (by decide) (by decide) (by decide) (by decide) (by decide) N23 (by omega) (g := (mkF m 141 #[.val (.ref a_1), .val (.int 1), .val (.ref a_3), .val (.int 0), .val (.int 1), .val (.int 1), .val (.int 0)] [(.int 1), (.int 0), (.ref ob2), (.int 0), (.ref a_3)])) rfl (by rw [hml]; rfl) rfl (hb hby own_d4_141) (by decide) (W := 0) (by show 2 * 0 + _ ≤ _; exact Nat.le_of_eq rfl) (by decide)
  have z49 := Kq48.1
  have K48 : Keep h0 h48 [ob2, ob0, ob1, a_1] := K23.trans Kq48 (allS (Or.inl (List.mem_of_getElem? (i := 0) rfl)) all0)
  have V48 : own_AV Z h48 ob2 .int 64 (own_upd (fun _ => (.int 0)) 0 (.int 0)) := own_AV.congr V48 (fun i _ => congrFun (own_cpf1) i)
  refine own_go (fun _ k => st48 _ k) ?_
  show own_Go _ _ _ _ T48 (mkF m 144 #[.val (.ref a_1), .val (.int 1), .val (.ref a_3), .val (.int 0), .val (.int 1), .val (.int 1), .val (.int 0)] [])
  refine own_go (fun _ k => XS.aloadN X48.here hx rfl (hb hby own_d4_144) rfl rfl k) ?_
  have f50 := (f29.keep Kq48 (ninS (own_ne (by omega)) nin0))
  obtain ⟨T51, X51, e51, st51⟩ := getF X48 hx hZ hown (host := "") (Or.inl (hw _ (List.mem_of_getElem? (i := 10) rfl))) Via.refl e48 f50 (g := (mkF m 145 #[.val (.ref a_1), .val (.int 1), .val (.ref a_3), .val (.int 0), .val (.int 1), .val (.int 1), .val (.int 0)] [(.ref a_1)])) rfl rfl (hb hby own_d4_145)
  refine own_go (fun _ k => st51 _ k) ?_
  show own_Go _ _ _ _ T51 (mkF m 148 #[.val (.ref a_1), .val (.int 1), .val (.ref a_3), .val (.int 0), .val (.int 1), .val (.int 1), .val (.int 0)] [(.ref ob0)])
  refine own_go (fun _ k => XS.aloadN X51.here hx rfl (hb hby own_d4_148) rfl rfl k) ?_
  have f52 := (f27.keep Kq48 (ninS (own_ne (by omega)) nin0))
  obtain ⟨T53, X53, e53, st53⟩ := getF X51 hx hZ hown (host := "") (Or.inl (own_w46 hw)) Via.refl e51 f52 (g := (mkF m 149 #[.val (.ref a_1), .val (.int 1), .val (.ref a_3), .val (.int 0), .val (.int 1), .val (.int 1), .val (.int 0)] [(.ref a_1), (.ref ob0)])) rfl rfl (hb hby own_d4_149)
  refine own_go (fun _ k => st53 _ k) ?_
  show own_Go _ _ _ _ T53 (mkF m 152 #[.val (.ref a_1), .val (.int 1), .val (.ref a_3), .val (.int 0), .val (.int 1), .val (.int 1), .val (.int 0)] [(.int 0), (.ref ob0)])
  refine own_go (fun _ k => XS.iloadN X53.here hx rfl (hb hby own_d4_152) rfl k) ?_
  have f54 := (f31.keep Kq48 (ninS (own_ne (by omega)) nin0))
  obtain ⟨q55, c55, R55, s55, t55⟩ := id f54
  have hin55 : ¬ ((0 : Int32) < 0 ∨ c55.slots.size ≤ ((0 : Int32)).toNatClampNeg) := inb_of s55 ⟨by decide, by decide⟩
  obtain ⟨T56, h56, X56, e56, W56, st56⟩ := stI X53 hx hZ e53 R55 (j := (0 : Int32)) hin55 (g := (mkF m 153 #[.val (.ref a_1), .val (.int 1), .val (.ref a_3), .val (.int 0), .val (.int 1), .val (.int 1), .val (.int 0)] [(.int 1), (.int 0), (.ref ob0)])) rfl rfl (hb hby own_d4_153)
  have V56 : own_AV Z h56 ob0 .int 64 (own_upd (fun _ => (.int 0)) 0 (.int 1)) := own_AV.set (k := 0) f54 W56 (by decide)
  have z57 := W56.size
  have K56 : Keep h0 h56 [ob2, ob0, ob1, a_1] := K48.wr W56 (Or.inl (List.mem_of_getElem? (i := 1) rfl))
  have N56 := Fr.snoc X56 N48 (by omega : n0 ≤ ob0)
  refine own_go (fun _ k => st56 _ k) ?_
  show own_Go _ _ _ _ T56 (mkF m 154 #[.val (.ref a_1), .val (.int 1), .val (.ref a_3), .val (.int 0), .val (.int 1), .val (.int 1), .val (.int 0)] [])
  refine own_go (fun _ k => XS.aloadN X56.here hx rfl (hb hby own_d4_154) rfl rfl k) ?_
  have f58 := ((f34.keep Kq48 (ninS (own_ne (by omega)) nin0)).other W56 (Or.inl (own_ne (by omega))))
  obtain ⟨T59, X59, e59, st59⟩ := getF X56 hx hZ hown (host := "") (Or.inl (own_w12 hw)) Via.refl e56 f58 (g := (mkF m 155 #[.val (.ref a_1), .val (.int 1), .val (.ref a_3), .val (.int 0), .val (.int 1), .val (.int 1), .val (.int 0)] [(.ref a_1)])) rfl rfl (hb hby own_d4_155)
  refine own_go (fun _ k => st59 _ k) ?_
  show own_Go _ _ _ _ T59 (mkF m 158 #[.val (.ref a_1), .val (.int 1), .val (.ref a_3), .val (.int 0), .val (.int 1), .val (.int 1), .val (.int 0)] [(.ref ob1)])
  refine own_go (fun _ k => XS.aloadN X59.here hx rfl (hb hby own_d4_158) rfl rfl k) ?_
  have f60 := (f52.other W56 (Or.inl (own_ne (by omega))))
  obtain ⟨T61, X61, e61, st61⟩ := getF X59 hx hZ hown (host := "") (Or.inl (own_w46 hw)) Via.refl e59 f60 (g := (mkF m 159 #[.val (.ref a_1), .val (.int 1), .val (.ref a_3), .val (.int 0), .val (.int 1), .val (.int 1), .val (.int 0)] [(.ref a_1), (.ref ob1)])) rfl rfl (hb hby own_d4_159)
  refine own_go (fun _ k => st61 _ k) ?_
  show own_Go _ _ _ _ T61 (mkF m 162 #[.val (.ref a_1), .val (.int 1), .val (.ref a_3), .val (.int 0), .val (.int 1), .val (.int 1), .val (.int 0)] [(.int 0), (.ref ob1)])
  refine own_go (fun _ k => XS.iconst X61.here hx rfl (hb hby own_d4_162) (XS.iadd X61.here hx rfl (hb hby own_d4_163) rfl (XS.iloadN X61.here hx rfl (hb hby own_d4_164) rfl (XS.aloadN X61.here hx rfl (hb hby own_d4_165) rfl rfl k)))) ?_
  show own_Go _ _ _ _ T61 (mkF m 166 #[.val (.ref a_1), .val (.int 1), .val (.ref a_3), .val (.int 0), .val (.int 1), .val (.int 1), .val (.int 0)] [(.ref a_3), (.int 0), (.int 1), (.ref ob1)])
  have f62 := ((f39.keep Kq48 (ninS (own_ne (by omega)) nin0)).other W56 (own_ne (by omega)))
  obtain ⟨q63, c63, R63, s63, t63⟩ := id f62
  refine own_go (fun _ k => X61.arraylength hx (by rw [e61]; exact R63.1) (State.isArrayOf_alike hZ.alike R63.2.1) (g := (mkF m 166 #[.val (.ref a_1), .val (.int 1), .val (.ref a_3), .val (.int 0), .val (.int 1), .val (.int 1), .val (.int 0)] [(.ref a_3), (.int 0), (.int 1), (.ref ob1)])) rfl rfl (hb hby own_d4_166) _ k) ?_
  rw [len_of s63 q63]
  show own_Go _ _ _ _ T61 (mkF m 167 #[.val (.ref a_1), .val (.int 1), .val (.ref a_3), .val (.int 0), .val (.int 1), .val (.int 1), .val (.int 0)] [(.int 1), (.int 0), (.int 1), (.ref ob1)])
  refine own_go (fun _ k => XS.iadd X61.here hx rfl (hb hby own_d4_167) rfl k) ?_
  have f64 := ((f37.keep Kq48 (ninS (own_ne (by omega)) nin0)).other W56 (own_ne (by omega)))
  obtain ⟨q65, c65, R65, s65, t65⟩ := id f64
  have hin65 : ¬ ((1 : Int32) < 0 ∨ c65.slots.size ≤ ((1 : Int32)).toNatClampNeg) := inb_of s65 ⟨by decide, by decide⟩
  obtain ⟨T66, h66, X66, e66, W66, st66⟩ := stI X61 hx hZ e61 R65 (j := (1 : Int32)) hin65 (g := (mkF m 168 #[.val (.ref a_1), .val (.int 1), .val (.ref a_3), .val (.int 0), .val (.int 1), .val (.int 1), .val (.int 0)] [(.int 1), (.int 1), (.ref ob1)])) rfl rfl (hb hby own_d4_168)
  have V66 : own_AV Z h66 ob1 .int 65 (own_upd (fun _ => (.int 0)) 1 (.int 1)) := own_AV.set (k := 1) f64 W66 (by decide)
  have z67 := W66.size
  have K66 : Keep h0 h66 [ob2, ob0, ob1, a_1] := K56.wr W66 (Or.inl (List.mem_of_getElem? (i := 2) rfl))
  have N66 := Fr.snoc X66 N56 (by omega : n0 ≤ ob1)
  refine own_go (fun _ k => st66 _ k) ?_
  show own_Go _ _ _ _ T66 (mkF m 169 #[.val (.ref a_1), .val (.int 1), .val (.ref a_3), .val (.int 0), .val (.int 1), .val (.int 1), .val (.int 0)] [])
  refine own_go (fun _ k => XS.aloadN X66.here hx rfl (hb hby own_d4_169) rfl rfl (XS.dup X66.here hx rfl (hb hby own_d4_170) rfl rfl k)) ?_
  have f68 := (f60.other W66 (Or.inl (own_ne (by omega))))
  obtain ⟨T69, X69, e69, st69⟩ := getF X66 hx hZ hown (host := "") (Or.inl (own_w46 hw)) Via.refl e66 f68 (g := (mkF m 171 #[.val (.ref a_1), .val (.int 1), .val (.ref a_3), .val (.int 0), .val (.int 1), .val (.int 1), .val (.int 0)] [(.ref a_1), (.ref a_1)])) rfl rfl (hb hby own_d4_171)
  refine own_go (fun _ k => st69 _ k) ?_
  show own_Go _ _ _ _ T69 (mkF m 174 #[.val (.ref a_1), .val (.int 1), .val (.ref a_3), .val (.int 0), .val (.int 1), .val (.int 1), .val (.int 0)] [(.int 0), (.ref a_1)])
  refine own_go (fun _ k => XS.iconst X69.here hx rfl (hb hby own_d4_174) (XS.iadd X69.here hx rfl (hb hby own_d4_175) rfl k)) ?_
  have f70 := ((((f24.keep K23q).keep Kq48).wr W56).wr W66)
  obtain ⟨T71, h71, X71, e71, W71, st71⟩ := putF X69 hx hZ hown (host := "") (Or.inl (own_w46 hw)) Via.refl e69 f68 f70 (Or.inl (own_w47 hw)) (own_w1 hw) (ty := .int) (by decide) rfl rfl (g := (mkF m 176 #[.val (.ref a_1), .val (.int 1), .val (.ref a_3), .val (.int 0), .val (.int 1), .val (.int 1), .val (.int 0)] [(.int 1), (.ref a_1)])) rfl rfl (hb hby own_d4_176)
  have z72 := W71.size
  have K71 : Keep h0 h71 [ob2, ob0, ob1, a_1] := K66.wr W71 (Or.inl (List.mem_of_getElem? (i := 3) rfl))
  have N71 := Fr.snoc X71 N66 (by omega : n0 ≤ a_1)
  have Fw71 : Fld Z h71 a_1 own_N1 "clauseCount" "I" (.int 1) := Fld.same W71 f68
  refine own_go (fun _ k => st71 _ k) ?_
  show own_Go _ _ _ _ T71 (mkF m 179 #[.val (.ref a_1), .val (.int 1), .val (.ref a_3), .val (.int 0), .val (.int 1), .val (.int 1), .val (.int 0)] [])
  refine own_go (fun _ k => XS.aloadN X71.here hx rfl (hb hby own_d4_179) rfl rfl (XS.aconstNull X71.here hx rfl (hb hby own_d4_180) k)) ?_
  have f73 := (f70.wr W71)
  have f74 := ((((((pr_F_a_1_occurrences.keep K16q nin0).keep K23q nin0).keep Kq48 (ninS (own_ne (by omega)) nin0)).other W56 (Or.inl (own_ne (by omega)))).other W66 (Or.inl (own_ne (by omega)))).other W71 (Or.inr (slot_ne (Or.inl (own_w22 hw)) (Or.inl (own_w47 hw)) (by decide) (t := (.array .int)) (t' := .int) (by decide) (by decide))))
  obtain ⟨T75, h75, X75, e75, W75, st75⟩ := putF X71 hx hZ hown (host := "") (Or.inl (hw _ (List.mem_of_getElem? (i := 21) rfl))) Via.refl e71 f74 f73 (Or.inl (own_w22 hw)) (own_w1 hw) (ty := (.array .int)) (by decide) rfl rfl (g := (mkF m 181 #[.val (.ref a_1), .val (.int 1), .val (.ref a_3), .val (.int 0), .val (.int 1), .val (.int 1), .val (.int 0)] [.null, (.ref a_1)])) rfl rfl (hb hby own_d4_181)
  have z76 := W75.size
  have K75 : Keep h0 h75 [ob2, ob0, ob1, a_1] := K71.wr W75 (Or.inl (List.mem_of_getElem? (i := 3) rfl))
  have N75 := Fr.snoc X75 N71 (by omega : n0 ≤ a_1)
  have Fw75 : Fld Z h75 a_1 own_N1 "occurrences" "[I" .null := Fld.same W75 f74
  refine own_go (fun _ k => st75 _ k) ?_
  show own_Go _ _ _ _ T75 (mkF m 184 #[.val (.ref a_1), .val (.int 1), .val (.ref a_3), .val (.int 0), .val (.int 1), .val (.int 1), .val (.int 0)] [])
  obtain ⟨fs, hr, hrun, hended, hRW⟩ := X75.leaveW hS23 (by rw [e75]; omega) (v := none) (fun _ => rfl)
  refine ⟨_, _, X75.returnOut hx Bd.returns (hb hby own_d4_184) hr, hrun, hended, _, _, rfl, ?_, own_monoW hRW (by rw [y23]; decide) (by rw [z23]; decide)⟩
  show own_Q4_s1 Z a_1 a_3 ob0 ob1 ob2 u_0 u_1 u_2 u_3 h0 n0 _ T75.heap _
  rw [e75]
  have f78 := ((((V48.other W56 (own_ne (by omega))).other W66 (own_ne (by omega))).other W71 (own_ne (by omega))).other W75 (own_ne (by omega)))
  have f79 := (((V56.other W66 (own_ne (by omega))).other W71 (own_ne (by omega))).other W75 (own_ne (by omega)))
  have f80 := ((V66.other W71 (own_ne (by omega))).other W75 (own_ne (by omega)))
  have f81 := (f73.wr W75)
  have f82 := (((((f41.keep Kq48 (ninS (own_ne (by omega)) nin0)).other W56 (Or.inl (own_ne (by omega)))).other W66 (Or.inl (own_ne (by omega)))).other W71 (Or.inr (slot_ne (Or.inl (own_w15 hw)) (Or.inl (own_w47 hw)) (by decide) (t := (.array .int)) (t' := .int) (by decide) (by decide)))).other W75 (Or.inr (slot_ne (Or.inl (own_w15 hw)) (Or.inl (own_w22 hw)) (by decide) (t := (.array .int)) (t' := (.array .int)) (by decide) (by decide))))
  have f83 := (((f58.other W66 (Or.inl (own_ne (by omega)))).other W71 (Or.inr (slot_ne (Or.inl (own_w13 hw)) (Or.inl (own_w47 hw)) (by decide) (t := (.array .int)) (t' := .int) (by decide) (by decide)))).other W75 (Or.inr (slot_ne (Or.inl (own_w13 hw)) (Or.inl (own_w22 hw)) (by decide) (t := (.array .int)) (t' := (.array .int)) (by decide) (by decide))))
  have f84 := (Fw71.other W75 (Or.inr (slot_ne (Or.inl (own_w47 hw)) (Or.inl (own_w22 hw)) (by decide) (t := .int) (t' := (.array .int)) (by decide) (by decide))))
  have f85 := (((((((pr_F_a_1_derivationStarts.keep K16q nin0).keep K23q nin0).keep Kq48 (ninS (own_ne (by omega)) nin0)).other W56 (Or.inl (own_ne (by omega)))).other W66 (Or.inl (own_ne (by omega)))).other W71 (Or.inr (slot_ne (Or.inl (own_w105 hw)) (Or.inl (own_w47 hw)) (by decide) (t := (.array .int)) (t' := .int) (by decide) (by decide)))).other W75 (Or.inr (slot_ne (Or.inl (own_w105 hw)) (Or.inl (own_w22 hw)) (by decide) (t := (.array .int)) (t' := (.array .int)) (by decide) (by decide))))
  have f86 := (((((((pr_F_a_1_derivations.keep K16q nin0).keep K23q nin0).keep Kq48 (ninS (own_ne (by omega)) nin0)).other W56 (Or.inl (own_ne (by omega)))).other W66 (Or.inl (own_ne (by omega)))).other W71 (Or.inr (slot_ne (Or.inl (own_w107 hw)) (Or.inl (own_w47 hw)) (by decide) (t := (.array .int)) (t' := .int) (by decide) (by decide)))).other W75 (Or.inr (slot_ne (Or.inl (own_w107 hw)) (Or.inl (own_w22 hw)) (by decide) (t := (.array .int)) (t' := (.array .int)) (by decide) (by decide))))
  have f87 := ((((f50.other W56 (Or.inl (own_ne (by omega)))).other W66 (Or.inl (own_ne (by omega)))).other W71 (Or.inr (slot_ne (Or.inl (own_w11 hw)) (Or.inl (own_w47 hw)) (by decide) (t := (.array .int)) (t' := .int) (by decide) (by decide)))).other W75 (Or.inr (slot_ne (Or.inl (own_w11 hw)) (Or.inl (own_w22 hw)) (by decide) (t := (.array .int)) (t' := (.array .int)) (by decide) (by decide))))
  have f88 := (((((((pr_F_a_1_occurrenceStarts.keep K16q nin0).keep K23q nin0).keep Kq48 (ninS (own_ne (by omega)) nin0)).other W56 (Or.inl (own_ne (by omega)))).other W66 (Or.inl (own_ne (by omega)))).other W71 (Or.inr (slot_ne (Or.inl (own_w109 hw)) (Or.inl (own_w47 hw)) (by decide) (t := (.array .int)) (t' := .int) (by decide) (by decide)))).other W75 (Or.inr (slot_ne (Or.inl (own_w109 hw)) (Or.inl (own_w22 hw)) (by decide) (t := (.array .int)) (t' := (.array .int)) (by decide) (by decide))))
  have f89 := ((((((f22.keep K23q nin0).keep Kq48 (ninS (own_ne (by omega)) nin0)).other W56 (Or.inl (own_ne (by omega)))).other W66 (Or.inl (own_ne (by omega)))).other W71 (Or.inr (slot_ne (Or.inl (own_w24 hw)) (Or.inl (own_w47 hw)) (by decide) (t := .int) (t' := .int) (by decide) (by decide)))).other W75 (Or.inr (slot_ne (Or.inl (own_w24 hw)) (Or.inl (own_w22 hw)) (by decide) (t := .int) (t' := (.array .int)) (by decide) (by decide))))
  exact ⟨rfl, N75, K75, f78, f79, f80, f81, f82, f83, f84, f85, f86, f87, f88, Fw75, f89⟩
theorem own_d7_0 : decode prog_6_method_3_code 0 = .ok (.aload_n 0, 1) := by decide +kernel
theorem own_d7_1 : decode prog_6_method_3_code 1 = .ok (.getfield 22, 3) := by decide +kernel
theorem own_d7_4 : decode prog_6_method_3_code 4 = .ok (.ireturn, 1) := by decide +kernel
theorem own_ef_own_rm7_s1 (m : MethodId) (x0 : Addr) : entryFrame m #[(.ref x0)] 1 = mkF m 0 #[.val (.ref x0)] [] := by first | (simp [entryFrame, mkF, argsToLocals, Value.category]; done) | rfl
def own_Q7_s1 (Z : State) (a_1 : Addr) (h0 : Heap) (n0 : Nat) (v : Option Value) (h : Heap) (L : List Loc) : Prop := v = some (.int 3) ∧ Fr n0 L ∧ h = h0
set_option maxRecDepth 65536 in
set_option maxHeartbeats 40000000 in
theorem own_rm7_s1 (l : Launch) (Z : State) (a0 : Array Value) (hw : ∀ d ∈ tables_1, d.before a0 Z = true) (ws : List Jvm.Cond) (a_1 : Addr) (h0 : Heap) (n0 : Nat) (Z0 : n0 ≤ h0.size) (pr_F_a_1_variableCount : Fld Z h0 a_1 own_N1 "variableCount" "I" (.int 3)) :
    MetFree l (⟨own_N1, "variableCount", "()I"⟩ : MethodName) (head1 (Jvm.Cond.code (⟨own_N1, "variableCount", "()I"⟩ : MethodName) prog_6_method_3_code 1 (some .int) :: ws) ({ frames := 0, cells := 0, slots := 0, locals := 0 } : Room)) (fun a U => a = #[(.ref a_1)] ∧ Z.Warmed39 U.vm ∧ U.heap = h0) (fun _ _ _ _ _ => True) (fun _ U o U' => ∃ v L, o = .returned v ∧ own_Q7_s1 Z a_1 h0 n0 v U'.heap L ∧ FrameEnd U o U' L ({ frames := 0, cells := 0, slots := 0, locals := 0 } : Room).cells ({ frames := 0, cells := 0, slots := 0, locals := 0 } : Room).slots) := by
  refine MetFree.of_bodySF (plainFor_of_name own_pn0) hisR ?_
  intro p e s m args below meth c s₁ Bd hml0 hP hK
  obtain ⟨rfl, hZ, hh⟩ := hP
  have hx := Bd.exec
  have hby := Bd.bytes
  have hml : c.maxLocals = 1 := hml0
  have hown : s.vm.findClass own_N1 = some m.cls := findClass_of_methodNamed Bd.named
  have hnm := (name_of_methodNamed Bd.named Bd.method).1
  have X0 : Stand p l e ({ frames := 0, cells := 0, slots := 0, locals := 0 } : Room) s m #[(.ref a_1)] below meth c s₁ [] 0 0 := Stand.of_body Bd
  have e0 : s₁.heap = h0 := by rw [← hh, Bd.state]; rfl
  have N0 := Fr.nil n0
  have z0 : n0 ≤ h0.size := Z0
  have z1 := own_lt pr_F_a_1_variableCount.lt
  show own_Go p.tables e below (fun t o => t.status = .running ∧ Ended t below o ∧ ∃ v L, o = .returned v ∧ own_Q7_s1 Z a_1 h0 n0 v t.heap L ∧ FrameEnd s o t L ({ frames := 0, cells := 0, slots := 0, locals := 0 } : Room).cells ({ frames := 0, cells := 0, slots := 0, locals := 0 } : Room).slots) s₁ (entryFrame m #[(.ref a_1)] 1)
  rw [own_ef_own_rm7_s1 m a_1]
  show own_Go _ _ _ _ s₁ (mkF m 0 #[.val (.ref a_1)] [])
  refine own_go (fun _ k => XS.aloadN X0.here hx rfl (hb hby own_d7_0) rfl rfl k) ?_
  obtain ⟨T2, X2, e2, st2⟩ := getF X0 hx hZ hown (host := "") (Or.inl (own_w23 hw)) Via.refl e0 pr_F_a_1_variableCount (g := (mkF m 1 #[.val (.ref a_1)] [(.ref a_1)])) rfl rfl (hb hby own_d7_1)
  refine own_go (fun _ k => st2 _ k) ?_
  show own_Go _ _ _ _ T2 (mkF m 4 #[.val (.ref a_1)] [(.int 3)])
  obtain ⟨fs, hr, hrun, hended, hW, hsame⟩ := X2.leave (v := some (.int 3)) (fun h => by rw [Bd.returns] at h; cases h)
  refine ⟨_, _, retOut X2 hx Bd.returns rfl (Or.inl ⟨rfl, Or.inl rfl, _, rfl⟩) (hb hby own_d7_4) hr, hrun, hended, _, _, rfl, ?_, ⟨_, rfl⟩, hW, hsame.mono (by decide) (by decide)⟩
  show own_Q7_s1 Z a_1 h0 n0 _ T2.heap _
  rw [e2]
  exact ⟨rfl, N0, rfl⟩
theorem own_d12_0 : decode jdk_65_method_30_code 0 = .ok (.iload_n 1, 1) := by decide +kernel
theorem own_d12_1 : decode jdk_65_method_30_code 1 = .ok (.iload_n 2, 1) := by decide +kernel
theorem own_d12_2 : decode jdk_65_method_30_code 2 = .ok (.if_icmp .le 44, 3) := by decide +kernel
theorem own_d12_46 : decode jdk_65_method_30_code 46 = .ok (.iload_n 1, 1) := by decide +kernel
theorem own_d12_47 : decode jdk_65_method_30_code 47 = .ok (.ifCond .ge 12, 3) := by decide +kernel
theorem own_d12_59 : decode jdk_65_method_30_code 59 = .ok (.iload_n 2, 1) := by decide +kernel
theorem own_d12_60 : decode jdk_65_method_30_code 60 = .ok (.iload_n 0, 1) := by decide +kernel
theorem own_d12_61 : decode jdk_65_method_30_code 61 = .ok (.if_icmp .le 12, 3) := by decide +kernel
theorem own_d12_73 : decode jdk_65_method_30_code 73 = .ok (.return_, 1) := by decide +kernel
theorem own_ef_own_rm12_s1 (m : MethodId)  : entryFrame m #[(.int 1), (.int 0), (.int 1)] 3 = mkF m 0 #[.val (.int 1), .val (.int 0), .val (.int 1)] [] := by first | (simp [entryFrame, mkF, argsToLocals, Value.category]; done) | rfl
def own_Q12_s1 (Z : State)  (h0 : Heap) (n0 : Nat) (v : Option Value) (h : Heap) (L : List Loc) : Prop := v = none ∧ Fr n0 L ∧ h = h0
set_option maxRecDepth 65536 in
set_option maxHeartbeats 40000000 in
theorem own_rm12_s1 (l : Launch) (Z : State) (a0 : Array Value) (hw : ∀ d ∈ tables_1, d.before a0 Z = true) (ws : List Jvm.Cond)  (h0 : Heap) (n0 : Nat) (Z0 : n0 ≤ h0.size) :
    MetFree l (⟨"java/util/Arrays", "rangeCheck", "(III)V"⟩ : MethodName) (head1 (Jvm.Cond.code (⟨"java/util/Arrays", "rangeCheck", "(III)V"⟩ : MethodName) jdk_65_method_30_code 3 none :: ws) ({ frames := 0, cells := 0, slots := 0, locals := 0 } : Room)) (fun a U => a = #[(.int 1), (.int 0), (.int 1)] ∧ Z.Warmed39 U.vm ∧ U.heap = h0) (fun _ _ _ _ _ => True) (fun _ U o U' => ∃ v L, o = .returned v ∧ own_Q12_s1 Z  h0 n0 v U'.heap L ∧ FrameEnd U o U' L ({ frames := 0, cells := 0, slots := 0, locals := 0 } : Room).cells ({ frames := 0, cells := 0, slots := 0, locals := 0 } : Room).slots) := by
  refine MetFree.of_bodySF (plainFor_of_name own_pn1) hisR ?_
  intro p e s m args below meth c s₁ Bd hml0 hP hK
  obtain ⟨rfl, hZ, hh⟩ := hP
  have hx := Bd.exec
  have hby := Bd.bytes
  have hml : c.maxLocals = 3 := hml0
  have hown : s.vm.findClass "java/util/Arrays" = some m.cls := findClass_of_methodNamed Bd.named
  have hnm := (name_of_methodNamed Bd.named Bd.method).1
  have X0 : Stand p l e ({ frames := 0, cells := 0, slots := 0, locals := 0 } : Room) s m #[(.int 1), (.int 0), (.int 1)] below meth c s₁ [] 0 0 := Stand.of_body Bd
  have e0 : s₁.heap = h0 := by rw [← hh, Bd.state]; rfl
  have N0 := Fr.nil n0
  have z0 : n0 ≤ h0.size := Z0
  show own_Go p.tables e below (fun t o => t.status = .running ∧ Ended t below o ∧ ∃ v L, o = .returned v ∧ own_Q12_s1 Z  h0 n0 v t.heap L ∧ FrameEnd s o t L ({ frames := 0, cells := 0, slots := 0, locals := 0 } : Room).cells ({ frames := 0, cells := 0, slots := 0, locals := 0 } : Room).slots) s₁ (entryFrame m #[(.int 1), (.int 0), (.int 1)] 3)
  rw [own_ef_own_rm12_s1 m ]
  show own_Go _ _ _ _ s₁ (mkF m 0 #[.val (.int 1), .val (.int 0), .val (.int 1)] [])
  refine own_go (fun _ k => XS.iloadN X0.here hx rfl (hb hby own_d12_0) rfl (XS.iloadN X0.here hx rfl (hb hby own_d12_1) rfl k)) ?_
  have hc1 : ¬ ((1 : Int32) < (0 : Int32)) := by decide
  refine own_go (fun _ k => XS.icmpYes X0.here hx rfl (pc0 := 2) (pc' := 46) rfl (hb hby own_d12_2) rfl (Jvm.Free.XT.ii_le_t hc1) (by decide) (by decide) (XS.iloadN X0.here hx rfl (hb hby own_d12_46) rfl k)) ?_
  have hc2 : ¬ ((0 : Int32) < 0) := by decide
  refine own_go (fun _ k => XS.ifYes X0.here hx rfl (pc0 := 47) (pc' := 59) rfl (hb hby own_d12_47) rfl (Jvm.Free.XT.i0_ge_t hc2) (by decide) (by decide) (XS.iloadN X0.here hx rfl (hb hby own_d12_59) rfl (XS.iloadN X0.here hx rfl (hb hby own_d12_60) rfl k))) ?_
  have hc3 : ¬ ((1 : Int32) < (1 : Int32)) := by decide
  refine own_go (fun _ k => XS.icmpYes X0.here hx rfl (pc0 := 61) (pc' := 73) rfl (hb hby own_d12_61) rfl (Jvm.Free.XT.ii_le_t hc3) (by decide) (by decide) k) ?_
  show own_Go _ _ _ _ s₁ (mkF m 73 #[.val (.int 1), .val (.int 0), .val (.int 1)] [])
  obtain ⟨fs, hr, hrun, hended, hW, hsame⟩ := X0.leave (v := none) (fun _ => rfl)
  refine ⟨_, _, X0.returnOut hx Bd.returns (hb hby own_d12_73) hr, hrun, hended, _, _, rfl, ?_, ⟨_, rfl⟩, hW, hsame.mono (by decide) (by decide)⟩
  show own_Q12_s1 Z  h0 n0 _ s₁.heap _
  rw [e0]
  exact ⟨rfl, N0, rfl⟩
theorem own_d11_0 : decode jdk_65_method_104_code 0 = .ok (.aload_n 0, 1) := by decide +kernel
theorem own_d11_1 : decode jdk_65_method_104_code 1 = .ok (.arraylength, 1) := by decide +kernel
theorem own_d11_2 : decode jdk_65_method_104_code 2 = .ok (.iload_n 1, 1) := by decide +kernel
theorem own_d11_3 : decode jdk_65_method_104_code 3 = .ok (.iload_n 2, 1) := by decide +kernel
theorem own_d11_4 : decode jdk_65_method_104_code 4 = .ok (.invokestatic 13, 3) := by decide +kernel
theorem own_d11_7 : decode jdk_65_method_104_code 7 = .ok (.iload_n 1, 1) := by decide +kernel
theorem own_d11_8 : decode jdk_65_method_104_code 8 = .ok (.istore 4, 2) := by decide +kernel
theorem own_d11_10 : decode jdk_65_method_104_code 10 = .ok (.iload 4, 2) := by decide +kernel
theorem own_d11_12 : decode jdk_65_method_104_code 12 = .ok (.iload_n 2, 1) := by decide +kernel
theorem own_d11_13 : decode jdk_65_method_104_code 13 = .ok (.if_icmp .ge 14, 3) := by decide +kernel
theorem own_d11_16 : decode jdk_65_method_104_code 16 = .ok (.aload_n 0, 1) := by decide +kernel
theorem own_d11_17 : decode jdk_65_method_104_code 17 = .ok (.iload 4, 2) := by decide +kernel
theorem own_d11_19 : decode jdk_65_method_104_code 19 = .ok (.iload_n 3, 1) := by decide +kernel
theorem own_d11_20 : decode jdk_65_method_104_code 20 = .ok (.iastore, 1) := by decide +kernel
theorem own_d11_21 : decode jdk_65_method_104_code 21 = .ok (.iinc 4 1, 3) := by decide +kernel
theorem own_d11_24 : decode jdk_65_method_104_code 24 = .ok (.goto (-14), 3) := by decide +kernel
theorem own_d11_27 : decode jdk_65_method_104_code 27 = .ok (.return_, 1) := by decide +kernel
theorem own_ef_own_rm11_s1 (m : MethodId) (x0 : Addr) : entryFrame m #[(.ref x0), (.int 0), (.int 1), (.int 0)] 5 = mkF m 0 #[.val (.ref x0), .val (.int 0), .val (.int 1), .val (.int 0), .unset] [] := by first | (simp [entryFrame, mkF, argsToLocals, Value.category]; done) | rfl
def own_Q11_s1 (Z : State) (a_1 : Addr) (h0 : Heap) (n0 : Nat) (v : Option Value) (h : Heap) (L : List Loc) : Prop := v = none ∧ Fr n0 L ∧ Keep h0 h [a_1] ∧ own_AV Z h a_1 .int 1 (own_upd (fun _ => (.int 0)) 0 (.int 0))
set_option maxRecDepth 65536 in
set_option maxHeartbeats 40000000 in
theorem own_rm11_s1 (l : Launch) (Z : State) (a0 : Array Value) (hw : ∀ d ∈ tables_1, d.before a0 Z = true) (ws : List Jvm.Cond) (a_1 : Addr) (h0 : Heap) (n0 : Nat) (Z0 : n0 ≤ h0.size) (pr_A_a_1 : own_AV Z h0 a_1 .int 1 (fun _ => (.int 0))) (gw_a_1 : n0 ≤ a_1) :
    MetFree l (⟨"java/util/Arrays", "fill", "([IIII)V"⟩ : MethodName) (head1 (Jvm.Cond.code (⟨"java/util/Arrays", "fill", "([IIII)V"⟩ : MethodName) jdk_65_method_104_code 5 none :: ws) ({ frames := 1, cells := 0, slots := 0, locals := 14 } : Room)) (fun a U => a = #[(.ref a_1), (.int 0), (.int 1), (.int 0)] ∧ Z.Warmed39 U.vm ∧ U.heap = h0) (fun _ _ _ _ _ => True) (fun _ U o U' => ∃ v L, o = .returned v ∧ own_Q11_s1 Z a_1 h0 n0 v U'.heap L ∧ FrameEnd U o U' L ({ frames := 1, cells := 0, slots := 0, locals := 14 } : Room).cells ({ frames := 1, cells := 0, slots := 0, locals := 14 } : Room).slots) := by
  refine MetFree.of_bodySF (plainFor_of_name own_pn1) hisR ?_
  intro p e s m args below meth c s₁ Bd hml0 hP hK
  obtain ⟨rfl, hZ, hh⟩ := hP
  have hx := Bd.exec
  have hby := Bd.bytes
  have hml : c.maxLocals = 5 := hml0
  have hown : s.vm.findClass "java/util/Arrays" = some m.cls := findClass_of_methodNamed Bd.named
  have hnm := (name_of_methodNamed Bd.named Bd.method).1
  have X0 : Stand p l e ({ frames := 1, cells := 0, slots := 0, locals := 14 } : Room) s m #[(.ref a_1), (.int 0), (.int 1), (.int 0)] below meth c s₁ [] 0 0 := Stand.of_body Bd
  have e0 : s₁.heap = h0 := by rw [← hh, Bd.state]; rfl
  have N0 := Fr.nil n0
  have z0 : n0 ≤ h0.size := Z0
  have z1 := own_lt pr_A_a_1.lt
  have K0 : Keep h0 h0 [a_1] := Keep.refl h0 _
  show own_Go p.tables e below (fun t o => t.status = .running ∧ Ended t below o ∧ ∃ v L, o = .returned v ∧ own_Q11_s1 Z a_1 h0 n0 v t.heap L ∧ FrameEnd s o t L ({ frames := 1, cells := 0, slots := 0, locals := 14 } : Room).cells ({ frames := 1, cells := 0, slots := 0, locals := 14 } : Room).slots) s₁ (entryFrame m #[(.ref a_1), (.int 0), (.int 1), (.int 0)] 5)
  rw [own_ef_own_rm11_s1 m a_1]
  show own_Go _ _ _ _ s₁ (mkF m 0 #[.val (.ref a_1), .val (.int 0), .val (.int 1), .val (.int 0), .unset] [])
  refine own_go (fun _ k => XS.aloadN X0.here hx rfl (hb hby own_d11_0) rfl rfl k) ?_
  obtain ⟨q2, c2, R2, s2, t2⟩ := id pr_A_a_1
  refine own_go (fun _ k => X0.arraylength hx (by rw [e0]; exact R2.1) (State.isArrayOf_alike hZ.alike R2.2.1) (g := (mkF m 1 #[.val (.ref a_1), .val (.int 0), .val (.int 1), .val (.int 0), .unset] [(.ref a_1)])) rfl rfl (hb hby own_d11_1) _ k) ?_
  rw [len_of s2 q2]
  show own_Go _ _ _ _ s₁ (mkF m 2 #[.val (.ref a_1), .val (.int 0), .val (.int 1), .val (.int 0), .unset] [(.int 1)])
  refine own_go (fun _ k => XS.iloadN X0.here hx rfl (hb hby own_d11_2) rfl (XS.iloadN X0.here hx rfl (hb hby own_d11_3) rfl k)) ?_
  obtain ⟨_, _, ⟨T3, L3, k3, n3⟩, -, X3, ⟨Lc3, hQ3, l3, y3, z3⟩, st3⟩ := Jvm.LawKit.callS X0 hx (y := (⟨"java/util/Arrays", "rangeCheck", "(III)V"⟩ : MethodName)) hown (mvT hZ (hw _ (List.mem_of_getElem? (i := 74) rfl))) (mvT hZ (hw _ (List.mem_of_getElem? (i := 75) rfl))) (mvT hZ (own_w72 hw)) (mvT hZ (hw _ (List.mem_of_getElem? (i := 76) rfl))) (by decide) (backOf (W := 0) (own_rm12_s1 l Z a0 hw []   h0 n0 (by omega) ) hZ (hw _ (List.mem_of_getElem? (i := 76) rfl)) (own_w72 hw) (by decide) (by decide)) (g := (mkF m 4 #[.val (.ref a_1), .val (.int 0), .val (.int 1), .val (.int 0), .unset] [(.int 1), (.int 0), (.int 1)])) rfl (by rw [hml]; rfl) (argsL := [(.int 1), (.int 0), (.int 1)]) (rest := []) (lenOf own_pd5 rfl) rfl (by show 2 * 0 + _ ≤ _; exact Nat.le_of_eq rfl) (hb hby own_d11_4) (fun _ _ => ⟨rfl, e0, (by decide : 0 + 0 ≤ _), (by decide : 0 + 0 ≤ _)⟩)
  dsimp only [Pt.U, Pt.locs, Pt.cells, Pt.slots] at X3 l3 y3 z3 st3 hQ3
  have y3 : k3 = 0 := y3
  have z3 : n3 = 0 := z3
  obtain ⟨rfl, N3q, e3⟩ := hQ3
  have N3 : Fr n0 L3 := by rw [l3]; exact Fr.app N0 N3q
  refine own_go (fun _ k => st3 _ k) ?_
  show own_Go _ _ _ _ T3 (mkF m 7 #[.val (.ref a_1), .val (.int 0), .val (.int 1), .val (.int 0), .unset] [])
  refine own_go (fun _ k => XS.iloadN X3.here hx rfl (hb hby own_d11_7) rfl (XS.istore X3.here hx rfl (hb hby own_d11_8) rfl (l' := #[.val (.ref a_1), .val (.int 0), .val (.int 1), .val (.int 0), .val (.int 0)]) rfl (XS.iload X3.here hx rfl (hb hby own_d11_10) rfl (XS.iloadN X3.here hx rfl (hb hby own_d11_12) rfl k)))) ?_
  show own_Go _ _ _ _ T3 (mkF m 13 #[.val (.ref a_1), .val (.int 0), .val (.int 1), .val (.int 0), .val (.int 0)] [(.int 1), (.int 0)])
  have hc4 : (0 : Int32) < (1 : Int32) := by decide
  refine own_go (fun _ k => XS.icmpNo X3.here hx rfl (hb hby own_d11_13) rfl (Jvm.Free.XT.ii_ge_f hc4) (XS.aloadN X3.here hx rfl (hb hby own_d11_16) rfl rfl (XS.iload X3.here hx rfl (hb hby own_d11_17) rfl (XS.iloadN X3.here hx rfl (hb hby own_d11_19) rfl k)))) ?_
  show own_Go _ _ _ _ T3 (mkF m 20 #[.val (.ref a_1), .val (.int 0), .val (.int 1), .val (.int 0), .val (.int 0)] [(.int 0), (.int 0), (.ref a_1)])
  obtain ⟨q5, c5, R5, s5, t5⟩ := id pr_A_a_1
  have hin5 : ¬ ((0 : Int32) < 0 ∨ c5.slots.size ≤ ((0 : Int32)).toNatClampNeg) := inb_of s5 ⟨by decide, by decide⟩
  obtain ⟨T6, h6, X6, e6, W6, st6⟩ := stI X3 hx hZ e3 R5 (j := (0 : Int32)) hin5 (g := (mkF m 20 #[.val (.ref a_1), .val (.int 0), .val (.int 1), .val (.int 0), .val (.int 0)] [(.int 0), (.int 0), (.ref a_1)])) rfl rfl (hb hby own_d11_20)
  have V6 : own_AV Z h6 a_1 .int 1 (own_upd (fun _ => (.int 0)) 0 (.int 0)) := own_AV.set (k := 0) pr_A_a_1 W6 (by decide)
  have z7 := W6.size
  have K6 : Keep h0 h6 [a_1] := K0.wr W6 (Or.inl (List.mem_of_getElem? (i := 0) rfl))
  have N6 := Fr.snoc X6 N3 (by omega : n0 ≤ a_1)
  refine own_go (fun _ k => st6 _ k) ?_
  show own_Go _ _ _ _ T6 (mkF m 21 #[.val (.ref a_1), .val (.int 0), .val (.int 1), .val (.int 0), .val (.int 0)] [])
  refine own_go (fun _ k => XS.iinc X6.here hx rfl (hb hby own_d11_21) rfl (l' := #[.val (.ref a_1), .val (.int 0), .val (.int 1), .val (.int 0), .val (.int 1)]) rfl (XS.goto X6.here hx rfl (pc0 := 24) (pc' := 10) rfl (hb hby own_d11_24) (by decide) (by decide) (XS.iload X6.here hx rfl (hb hby own_d11_10) rfl (XS.iloadN X6.here hx rfl (hb hby own_d11_12) rfl k)))) ?_
  show own_Go _ _ _ _ T6 (mkF m 13 #[.val (.ref a_1), .val (.int 0), .val (.int 1), .val (.int 0), .val (.int 1)] [(.int 1), (.int 1)])
  have hc8 : ¬ ((1 : Int32) < (1 : Int32)) := by decide
  refine own_go (fun _ k => XS.icmpYes X6.here hx rfl (pc0 := 13) (pc' := 27) rfl (hb hby own_d11_13) rfl (Jvm.Free.XT.ii_ge_t hc8) (by decide) (by decide) k) ?_
  show own_Go _ _ _ _ T6 (mkF m 27 #[.val (.ref a_1), .val (.int 0), .val (.int 1), .val (.int 0), .val (.int 1)] [])
  obtain ⟨fs, hr, hrun, hended, hW, hsame⟩ := X6.leave (v := none) (fun _ => rfl)
  refine ⟨_, _, X6.returnOut hx Bd.returns (hb hby own_d11_27) hr, hrun, hended, _, _, rfl, ?_, ⟨_, rfl⟩, hW, hsame.mono (by rw [y3]; decide) (by rw [z3]; decide)⟩
  show own_Q11_s1 Z a_1 h0 n0 _ T6.heap _
  rw [e6]
  exact ⟨rfl, N6, K6, V6⟩
theorem own_d14_0 : decode jdk_31_method_10_code 0 = .ok (.aload_n 0, 1) := by decide +kernel
theorem own_d14_1 : decode jdk_31_method_10_code 1 = .ok (.ifnonnull 11, 3) := by decide +kernel
theorem own_d14_12 : decode jdk_31_method_10_code 12 = .ok (.aload_n 0, 1) := by decide +kernel
theorem own_d14_13 : decode jdk_31_method_10_code 13 = .ok (.areturn, 1) := by decide +kernel
theorem own_ef_own_rm14_s1 (m : MethodId) (x0 : Addr) : entryFrame m #[(.ref x0)] 1 = mkF m 0 #[.val (.ref x0)] [] := by first | (simp [entryFrame, mkF, argsToLocals, Value.category]; done) | rfl
def own_Q14_s1 (Z : State) (a_1 : Addr) (h0 : Heap) (n0 : Nat) (v : Option Value) (h : Heap) (L : List Loc) : Prop := v = some (.ref a_1) ∧ Fr n0 L ∧ h = h0
set_option maxRecDepth 65536 in
set_option maxHeartbeats 40000000 in
theorem own_rm14_s1 (l : Launch) (Z : State) (a0 : Array Value) (hw : ∀ d ∈ tables_1, d.before a0 Z = true) (ws : List Jvm.Cond) (a_1 : Addr) (h0 : Heap) (n0 : Nat) (Z0 : n0 ≤ h0.size) :
    MetFree l (⟨"java/util/Objects", "requireNonNull", "(Ljava/lang/Object;)Ljava/lang/Object;"⟩ : MethodName) (head1 (Jvm.Cond.code (⟨"java/util/Objects", "requireNonNull", "(Ljava/lang/Object;)Ljava/lang/Object;"⟩ : MethodName) jdk_31_method_10_code 1 (some (.object "java/lang/Object")) :: ws) ({ frames := 0, cells := 0, slots := 0, locals := 0 } : Room)) (fun a U => a = #[(.ref a_1)] ∧ Z.Warmed39 U.vm ∧ U.heap = h0) (fun _ _ _ _ _ => True) (fun _ U o U' => ∃ v L, o = .returned v ∧ own_Q14_s1 Z a_1 h0 n0 v U'.heap L ∧ FrameEnd U o U' L ({ frames := 0, cells := 0, slots := 0, locals := 0 } : Room).cells ({ frames := 0, cells := 0, slots := 0, locals := 0 } : Room).slots) := by
  refine MetFree.of_bodySF (plainFor_of_name own_pn2) hisR ?_
  intro p e s m args below meth c s₁ Bd hml0 hP hK
  obtain ⟨rfl, hZ, hh⟩ := hP
  have hx := Bd.exec
  have hby := Bd.bytes
  have hml : c.maxLocals = 1 := hml0
  have hown : s.vm.findClass "java/util/Objects" = some m.cls := findClass_of_methodNamed Bd.named
  have hnm := (name_of_methodNamed Bd.named Bd.method).1
  have X0 : Stand p l e ({ frames := 0, cells := 0, slots := 0, locals := 0 } : Room) s m #[(.ref a_1)] below meth c s₁ [] 0 0 := Stand.of_body Bd
  have e0 : s₁.heap = h0 := by rw [← hh, Bd.state]; rfl
  have N0 := Fr.nil n0
  have z0 : n0 ≤ h0.size := Z0
  show own_Go p.tables e below (fun t o => t.status = .running ∧ Ended t below o ∧ ∃ v L, o = .returned v ∧ own_Q14_s1 Z a_1 h0 n0 v t.heap L ∧ FrameEnd s o t L ({ frames := 0, cells := 0, slots := 0, locals := 0 } : Room).cells ({ frames := 0, cells := 0, slots := 0, locals := 0 } : Room).slots) s₁ (entryFrame m #[(.ref a_1)] 1)
  rw [own_ef_own_rm14_s1 m a_1]
  show own_Go _ _ _ _ s₁ (mkF m 0 #[.val (.ref a_1)] [])
  refine own_go (fun _ k => XS.aloadN X0.here hx rfl (hb hby own_d14_0) rfl rfl (XS.ifnonnullYes X0.here hx rfl (pc0 := 1) (pc' := 12) rfl (hb hby own_d14_1) rfl (by decide) (by decide) (XS.aloadN X0.here hx rfl (hb hby own_d14_12) rfl rfl k))) ?_
  show own_Go _ _ _ _ s₁ (mkF m 13 #[.val (.ref a_1)] [(.ref a_1)])
  obtain ⟨fs, hr, hrun, hended, hW, hsame⟩ := X0.leave (v := some (.ref a_1)) (fun h => by rw [Bd.returns] at h; cases h)
  refine ⟨_, _, retOut X0 hx Bd.returns rfl (Or.inr (Or.inr (Or.inr (Or.inr ⟨rfl, rfl, rfl⟩)))) (hb hby own_d14_13) hr, hrun, hended, _, _, rfl, ?_, ⟨_, rfl⟩, hW, hsame.mono (by decide) (by decide)⟩
  show own_Q14_s1 Z a_1 h0 n0 _ s₁.heap _
  rw [e0]
  exact ⟨rfl, N0, rfl⟩
theorem own_d13_0 : decode jdk_65_method_175_code 0 = .ok (.aload_n 1, 1) := by decide +kernel
theorem own_d13_1 : decode jdk_65_method_175_code 1 = .ok (.invokestatic 175, 3) := by decide +kernel
theorem own_d13_4 : decode jdk_65_method_175_code 4 = .ok (.pop, 1) := by decide +kernel
theorem own_d13_5 : decode jdk_65_method_175_code 5 = .ok (.iconst 0, 1) := by decide +kernel
theorem own_d13_6 : decode jdk_65_method_175_code 6 = .ok (.istore_n 2, 1) := by decide +kernel
theorem own_d13_7 : decode jdk_65_method_175_code 7 = .ok (.iload_n 2, 1) := by decide +kernel
theorem own_d13_8 : decode jdk_65_method_175_code 8 = .ok (.aload_n 0, 1) := by decide +kernel
theorem own_d13_9 : decode jdk_65_method_175_code 9 = .ok (.arraylength, 1) := by decide +kernel
theorem own_d13_10 : decode jdk_65_method_175_code 10 = .ok (.if_icmp .ge 19, 3) := by decide +kernel
theorem own_d13_13 : decode jdk_65_method_175_code 13 = .ok (.aload_n 0, 1) := by decide +kernel
theorem own_d13_14 : decode jdk_65_method_175_code 14 = .ok (.iload_n 2, 1) := by decide +kernel
theorem own_d13_15 : decode jdk_65_method_175_code 15 = .ok (.aload_n 1, 1) := by decide +kernel
theorem own_d13_16 : decode jdk_65_method_175_code 16 = .ok (.iload_n 2, 1) := by decide +kernel
theorem own_d13_17 : decode jdk_65_method_175_code 17 = .ok (.invokeinterface 582 2, 5) := by decide +kernel
theorem own_d13_22 : decode jdk_65_method_175_code 22 = .ok (.iastore, 1) := by decide +kernel
theorem own_d13_23 : decode jdk_65_method_175_code 23 = .ok (.iinc 2 1, 3) := by decide +kernel
theorem own_d13_26 : decode jdk_65_method_175_code 26 = .ok (.goto (-19), 3) := by decide +kernel
theorem own_d13_29 : decode jdk_65_method_175_code 29 = .ok (.return_, 1) := by decide +kernel
theorem own_ef_own_rm13_s1 (m : MethodId) (x0 : Addr) (x1 : Addr) : entryFrame m #[(.ref x0), (.ref x1)] 3 = mkF m 0 #[.val (.ref x0), .val (.ref x1), .unset] [] := by first | (simp [entryFrame, mkF, argsToLocals, Value.category]; done) | rfl
def own_Q13_s1 (Z : State) (a_1 : Addr) (a_2 : Addr) (h0 : Heap) (n0 : Nat) (v : Option Value) (h : Heap) (L : List Loc) : Prop := v = none ∧ Fr n0 L ∧ Keep h0 h [a_1] ∧ own_AV Z h a_1 .int 1 (own_upd (fun _ => (.int 0)) 0 (.int 0))
set_option maxRecDepth 65536 in
set_option maxHeartbeats 40000000 in
theorem own_rm13_s1 (l : Launch) (Z : State) (a0 : Array Value) (hw : ∀ d ∈ tables_1, d.before a0 Z = true) (ws : List Jvm.Cond) (a_1 : Addr) (a_2 : Addr) (h0 : Heap) (n0 : Nat) (Z0 : n0 ≤ h0.size) (pr_A_a_1 : own_AV Z h0 a_1 .int 1 (fun _ => (.int 0))) (pr_M_a_2 : own_LM Z h0 a_2) (ho_g : own_lts [a_2, n0]) (gw_a_1 : n0 ≤ a_1) :
    MetFree l (⟨"java/util/Arrays", "setAll", "([ILjava/util/function/IntUnaryOperator;)V"⟩ : MethodName) (head1 (Jvm.Cond.code (⟨"java/util/Arrays", "setAll", "([ILjava/util/function/IntUnaryOperator;)V"⟩ : MethodName) jdk_65_method_175_code 3 none :: ws) ({ frames := 2, cells := 0, slots := 0, locals := 60 } : Room)) (fun a U => a = #[(.ref a_1), (.ref a_2)] ∧ Z.Warmed39 U.vm ∧ U.heap = h0) (fun _ _ _ _ _ => True) (fun _ U o U' => ∃ v L, o = .returned v ∧ own_Q13_s1 Z a_1 a_2 h0 n0 v U'.heap L ∧ FrameEnd U o U' L ({ frames := 2, cells := 0, slots := 0, locals := 60 } : Room).cells ({ frames := 2, cells := 0, slots := 0, locals := 60 } : Room).slots) := by
  refine MetFree.of_bodySF (plainFor_of_name own_pn1) hisR ?_
  intro p e s m args below meth c s₁ Bd hml0 hP hK
  obtain ⟨rfl, hZ, hh⟩ := hP
  have hx := Bd.exec
  have hby := Bd.bytes
  have hml : c.maxLocals = 3 := hml0
  have hown : s.vm.findClass "java/util/Arrays" = some m.cls := findClass_of_methodNamed Bd.named
  have hnm := (name_of_methodNamed Bd.named Bd.method).1
  have X0 : Stand p l e ({ frames := 2, cells := 0, slots := 0, locals := 60 } : Room) s m #[(.ref a_1), (.ref a_2)] below meth c s₁ [] 0 0 := Stand.of_body Bd
  have e0 : s₁.heap = h0 := by rw [← hh, Bd.state]; rfl
  have N0 := Fr.nil n0
  have z0 : n0 ≤ h0.size := Z0
  have z1 := own_lt pr_A_a_1.lt
  have ho2 := ho_g
  simp only [own_lts, and_true] at ho2
  have K0 : Keep h0 h0 [a_1] := Keep.refl h0 _
  show own_Go p.tables e below (fun t o => t.status = .running ∧ Ended t below o ∧ ∃ v L, o = .returned v ∧ own_Q13_s1 Z a_1 a_2 h0 n0 v t.heap L ∧ FrameEnd s o t L ({ frames := 2, cells := 0, slots := 0, locals := 60 } : Room).cells ({ frames := 2, cells := 0, slots := 0, locals := 60 } : Room).slots) s₁ (entryFrame m #[(.ref a_1), (.ref a_2)] 3)
  rw [own_ef_own_rm13_s1 m a_1 a_2]
  show own_Go _ _ _ _ s₁ (mkF m 0 #[.val (.ref a_1), .val (.ref a_2), .unset] [])
  refine own_go (fun _ k => XS.aloadN X0.here hx rfl (hb hby own_d13_0) rfl rfl k) ?_
  obtain ⟨_, _, ⟨T3, L3, k3, n3⟩, -, X3, ⟨Lc3, hQ3, l3, y3, z3⟩, st3⟩ := Jvm.LawKit.callS X0 hx (y := (⟨"java/util/Objects", "requireNonNull", "(Ljava/lang/Object;)Ljava/lang/Object;"⟩ : MethodName)) hown (mvT hZ (hw _ (List.mem_of_getElem? (i := 83) rfl))) (mvT hZ (hw _ (List.mem_of_getElem? (i := 84) rfl))) (mvT hZ (hw _ (List.mem_of_getElem? (i := 85) rfl))) (mvT hZ (hw _ (List.mem_of_getElem? (i := 86) rfl))) (by decide) (backOf (W := 0) (own_rm14_s1 l Z a0 hw [] a_2  h0 n0 (by omega) ) hZ (hw _ (List.mem_of_getElem? (i := 86) rfl)) (hw _ (List.mem_of_getElem? (i := 85) rfl)) (by decide) (by decide)) (g := (mkF m 1 #[.val (.ref a_1), .val (.ref a_2), .unset] [(.ref a_2)])) rfl (by rw [hml]; rfl) (argsL := [(.ref a_2)]) (rest := []) (lenOf own_pd7 rfl) rfl (by show 2 * 0 + _ ≤ _; exact Nat.le_of_eq rfl) (hb hby own_d13_1) (fun _ _ => ⟨rfl, e0, (by decide : 0 + 0 ≤ _), (by decide : 0 + 0 ≤ _)⟩)
  dsimp only [Pt.U, Pt.locs, Pt.cells, Pt.slots] at X3 l3 y3 z3 st3 hQ3
  have y3 : k3 = 0 := y3
  have z3 : n3 = 0 := z3
  obtain ⟨rfl, N3q, e3⟩ := hQ3
  have N3 : Fr n0 L3 := by rw [l3]; exact Fr.app N0 N3q
  refine own_go (fun _ k => st3 _ k) ?_
  show own_Go _ _ _ _ T3 (mkF m 4 #[.val (.ref a_1), .val (.ref a_2), .unset] [(.ref a_2)])
  refine own_go (fun _ k => XS.pop X3.here hx rfl (hb hby own_d13_4) rfl rfl (XS.iconst X3.here hx rfl (hb hby own_d13_5) (XS.istoreN X3.here hx rfl (hb hby own_d13_6) rfl (l' := #[.val (.ref a_1), .val (.ref a_2), .val (.int 0)]) rfl (XS.iloadN X3.here hx rfl (hb hby own_d13_7) rfl k)))) ?_
  show own_Go _ _ _ _ T3 (mkF m 8 #[.val (.ref a_1), .val (.ref a_2), .val (.int 0)] [(.int 0)])
  refine own_go (fun _ k => XS.aloadN X3.here hx rfl (hb hby own_d13_8) rfl rfl k) ?_
  obtain ⟨q4, c4, R4, s4, t4⟩ := id pr_A_a_1
  refine own_go (fun _ k => X3.arraylength hx (by rw [e3]; exact R4.1) (State.isArrayOf_alike hZ.alike R4.2.1) (g := (mkF m 9 #[.val (.ref a_1), .val (.ref a_2), .val (.int 0)] [(.ref a_1), (.int 0)])) rfl rfl (hb hby own_d13_9) _ k) ?_
  rw [len_of s4 q4]
  show own_Go _ _ _ _ T3 (mkF m 10 #[.val (.ref a_1), .val (.ref a_2), .val (.int 0)] [(.int 1), (.int 0)])
  have hc5 : (0 : Int32) < (1 : Int32) := by decide
  refine own_go (fun _ k => XS.icmpNo X3.here hx rfl (hb hby own_d13_10) rfl (Jvm.Free.XT.ii_ge_f hc5) (XS.aloadN X3.here hx rfl (hb hby own_d13_13) rfl rfl (XS.iloadN X3.here hx rfl (hb hby own_d13_14) rfl (XS.aloadN X3.here hx rfl (hb hby own_d13_15) rfl rfl k)))) ?_
  show own_Go _ _ _ _ T3 (mkF m 16 #[.val (.ref a_1), .val (.ref a_2), .val (.int 0)] [(.ref a_2), (.int 0), (.ref a_1)])
  refine own_go (fun _ k => XS.iloadN X3.here hx rfl (hb hby own_d13_16) rfl k) ?_
  obtain ⟨T6, X6, e6, st6⟩ := own_lamcall X3 hx hZ hown hw e3 pr_M_a_2 (g := (mkF m 17 #[.val (.ref a_1), .val (.ref a_2), .val (.int 0)] [(.int 0), (.ref a_2), (.int 0), (.ref a_1)])) rfl (by rw [hml]; rfl) (v := (0 : Int32)) (rest := [(.int 0), (.ref a_1)]) rfl (hb hby own_d13_17) (by decide) (W := 2) (by show 2 * 0 + _ ≤ _; exact Nat.le_of_eq rfl) (by decide) (by rw [y3]; decide) (by rw [z3]; decide)
  refine own_go (fun _ k => st6 _ k) ?_
  show own_Go _ _ _ _ T6 (mkF m 22 #[.val (.ref a_1), .val (.ref a_2), .val (.int 0)] [(.int 0), (.int 0), (.ref a_1)])
  obtain ⟨q7, c7, R7, s7, t7⟩ := id pr_A_a_1
  have hin7 : ¬ ((0 : Int32) < 0 ∨ c7.slots.size ≤ ((0 : Int32)).toNatClampNeg) := inb_of s7 ⟨by decide, by decide⟩
  obtain ⟨T8, h8, X8, e8, W8, st8⟩ := stI X6 hx hZ e6 R7 (j := (0 : Int32)) hin7 (g := (mkF m 22 #[.val (.ref a_1), .val (.ref a_2), .val (.int 0)] [(.int 0), (.int 0), (.ref a_1)])) rfl rfl (hb hby own_d13_22)
  have V8 : own_AV Z h8 a_1 .int 1 (own_upd (fun _ => (.int 0)) 0 (.int 0)) := own_AV.set (k := 0) pr_A_a_1 W8 (by decide)
  have z9 := W8.size
  have K8 : Keep h0 h8 [a_1] := K0.wr W8 (Or.inl (List.mem_of_getElem? (i := 0) rfl))
  have N8 := Fr.snoc X8 N3 (by omega : n0 ≤ a_1)
  refine own_go (fun _ k => st8 _ k) ?_
  show own_Go _ _ _ _ T8 (mkF m 23 #[.val (.ref a_1), .val (.ref a_2), .val (.int 0)] [])
  refine own_go (fun _ k => XS.iinc X8.here hx rfl (hb hby own_d13_23) rfl (l' := #[.val (.ref a_1), .val (.ref a_2), .val (.int 1)]) rfl (XS.goto X8.here hx rfl (pc0 := 26) (pc' := 7) rfl (hb hby own_d13_26) (by decide) (by decide) (XS.iloadN X8.here hx rfl (hb hby own_d13_7) rfl (XS.aloadN X8.here hx rfl (hb hby own_d13_8) rfl rfl k)))) ?_
  show own_Go _ _ _ _ T8 (mkF m 9 #[.val (.ref a_1), .val (.ref a_2), .val (.int 1)] [(.ref a_1), (.int 1)])
  obtain ⟨q10, c10, R10, s10, t10⟩ := id V8
  refine own_go (fun _ k => X8.arraylength hx (by rw [e8]; exact R10.1) (State.isArrayOf_alike hZ.alike R10.2.1) (g := (mkF m 9 #[.val (.ref a_1), .val (.ref a_2), .val (.int 1)] [(.ref a_1), (.int 1)])) rfl rfl (hb hby own_d13_9) _ k) ?_
  rw [len_of s10 q10]
  show own_Go _ _ _ _ T8 (mkF m 10 #[.val (.ref a_1), .val (.ref a_2), .val (.int 1)] [(.int 1), (.int 1)])
  have hc11 : ¬ ((1 : Int32) < (1 : Int32)) := by decide
  refine own_go (fun _ k => XS.icmpYes X8.here hx rfl (pc0 := 10) (pc' := 29) rfl (hb hby own_d13_10) rfl (Jvm.Free.XT.ii_ge_t hc11) (by decide) (by decide) k) ?_
  show own_Go _ _ _ _ T8 (mkF m 29 #[.val (.ref a_1), .val (.ref a_2), .val (.int 1)] [])
  obtain ⟨fs, hr, hrun, hended, hW, hsame⟩ := X8.leave (v := none) (fun _ => rfl)
  refine ⟨_, _, X8.returnOut hx Bd.returns (hb hby own_d13_29) hr, hrun, hended, _, _, rfl, ?_, ⟨_, rfl⟩, hW, hsame.mono (by rw [y3]; decide) (by rw [z3]; decide)⟩
  show own_Q13_s1 Z a_1 a_2 h0 n0 _ T8.heap _
  rw [e8]
  exact ⟨rfl, N8, K8, V8⟩
theorem own_d18_0 : decode jdk_29_method_69_code 0 = .ok (.iload_n 0, 1) := by decide +kernel
theorem own_d18_1 : decode jdk_29_method_69_code 1 = .ok (.iload_n 1, 1) := by decide +kernel
theorem own_d18_2 : decode jdk_29_method_69_code 2 = .ok (.if_icmp .gt 7, 3) := by decide +kernel
theorem own_d18_9 : decode jdk_29_method_69_code 9 = .ok (.iload_n 1, 1) := by decide +kernel
theorem own_d18_10 : decode jdk_29_method_69_code 10 = .ok (.ireturn, 1) := by decide +kernel
theorem own_ef_own_rm18_s1 (m : MethodId)  : entryFrame m #[(.int 4), (.int 3)] 2 = mkF m 0 #[.val (.int 4), .val (.int 3)] [] := by first | (simp [entryFrame, mkF, argsToLocals, Value.category]; done) | rfl
def own_Q18_s1 (Z : State)  (h0 : Heap) (n0 : Nat) (v : Option Value) (h : Heap) (L : List Loc) : Prop := v = some (.int 3) ∧ Fr n0 L ∧ h = h0
set_option maxRecDepth 65536 in
set_option maxHeartbeats 40000000 in
theorem own_rm18_s1 (l : Launch) (Z : State) (a0 : Array Value) (hw : ∀ d ∈ tables_1, d.before a0 Z = true) (ws : List Jvm.Cond)  (h0 : Heap) (n0 : Nat) (Z0 : n0 ≤ h0.size) :
    MetFree l (⟨"java/lang/Math", "min", "(II)I"⟩ : MethodName) (head1 (Jvm.Cond.code (⟨"java/lang/Math", "min", "(II)I"⟩ : MethodName) jdk_29_method_69_code 2 (some .int) :: ws) ({ frames := 0, cells := 0, slots := 0, locals := 0 } : Room)) (fun a U => a = #[(.int 4), (.int 3)] ∧ Z.Warmed39 U.vm ∧ U.heap = h0) (fun _ _ _ _ _ => True) (fun _ U o U' => ∃ v L, o = .returned v ∧ own_Q18_s1 Z  h0 n0 v U'.heap L ∧ FrameEnd U o U' L ({ frames := 0, cells := 0, slots := 0, locals := 0 } : Room).cells ({ frames := 0, cells := 0, slots := 0, locals := 0 } : Room).slots) := by
  refine MetFree.of_bodySF (Jvm.Free.JP.mathPlain rfl (by decide +kernel)) hisR ?_
  intro p e s m args below meth c s₁ Bd hml0 hP hK
  obtain ⟨rfl, hZ, hh⟩ := hP
  have hx := Bd.exec
  have hby := Bd.bytes
  have hml : c.maxLocals = 2 := hml0
  have hown : s.vm.findClass "java/lang/Math" = some m.cls := findClass_of_methodNamed Bd.named
  have hnm := (name_of_methodNamed Bd.named Bd.method).1
  have X0 : Stand p l e ({ frames := 0, cells := 0, slots := 0, locals := 0 } : Room) s m #[(.int 4), (.int 3)] below meth c s₁ [] 0 0 := Stand.of_body Bd
  have e0 : s₁.heap = h0 := by rw [← hh, Bd.state]; rfl
  have N0 := Fr.nil n0
  have z0 : n0 ≤ h0.size := Z0
  show own_Go p.tables e below (fun t o => t.status = .running ∧ Ended t below o ∧ ∃ v L, o = .returned v ∧ own_Q18_s1 Z  h0 n0 v t.heap L ∧ FrameEnd s o t L ({ frames := 0, cells := 0, slots := 0, locals := 0 } : Room).cells ({ frames := 0, cells := 0, slots := 0, locals := 0 } : Room).slots) s₁ (entryFrame m #[(.int 4), (.int 3)] 2)
  rw [own_ef_own_rm18_s1 m ]
  show own_Go _ _ _ _ s₁ (mkF m 0 #[.val (.int 4), .val (.int 3)] [])
  refine own_go (fun _ k => XS.iloadN X0.here hx rfl (hb hby own_d18_0) rfl (XS.iloadN X0.here hx rfl (hb hby own_d18_1) rfl k)) ?_
  have hc1 : (3 : Int32) < (4 : Int32) := by decide
  refine own_go (fun _ k => XS.icmpYes X0.here hx rfl (pc0 := 2) (pc' := 9) rfl (hb hby own_d18_2) rfl (Jvm.Free.XT.ii_gt_t hc1) (by decide) (by decide) (XS.iloadN X0.here hx rfl (hb hby own_d18_9) rfl k)) ?_
  show own_Go _ _ _ _ s₁ (mkF m 10 #[.val (.int 4), .val (.int 3)] [(.int 3)])
  obtain ⟨fs, hr, hrun, hended, hW, hsame⟩ := X0.leave (v := some (.int 3)) (fun h => by rw [Bd.returns] at h; cases h)
  refine ⟨_, _, retOut X0 hx Bd.returns rfl (Or.inl ⟨rfl, Or.inl rfl, _, rfl⟩) (hb hby own_d18_10) hr, hrun, hended, _, _, rfl, ?_, ⟨_, rfl⟩, hW, hsame.mono (by decide) (by decide)⟩
  show own_Q18_s1 Z  h0 n0 _ s₁.heap _
  rw [e0]
  exact ⟨rfl, N0, rfl⟩
theorem own_d17_0 : decode jdk_65_method_123_code 0 = .ok (.iload_n 1, 1) := by decide +kernel
theorem own_d17_1 : decode jdk_65_method_123_code 1 = .ok (.aload_n 0, 1) := by decide +kernel
theorem own_d17_2 : decode jdk_65_method_123_code 2 = .ok (.arraylength, 1) := by decide +kernel
theorem own_d17_3 : decode jdk_65_method_123_code 3 = .ok (.if_icmp .ne 11, 3) := by decide +kernel
theorem own_d17_14 : decode jdk_65_method_123_code 14 = .ok (.iload_n 1, 1) := by decide +kernel
theorem own_d17_15 : decode jdk_65_method_123_code 15 = .ok (.newarray .int, 2) := by decide +kernel
theorem own_d17_17 : decode jdk_65_method_123_code 17 = .ok (.astore_n 2, 1) := by decide +kernel
theorem own_d17_18 : decode jdk_65_method_123_code 18 = .ok (.aload_n 0, 1) := by decide +kernel
theorem own_d17_19 : decode jdk_65_method_123_code 19 = .ok (.iconst 0, 1) := by decide +kernel
theorem own_d17_20 : decode jdk_65_method_123_code 20 = .ok (.aload_n 2, 1) := by decide +kernel
theorem own_d17_21 : decode jdk_65_method_123_code 21 = .ok (.iconst 0, 1) := by decide +kernel
theorem own_d17_22 : decode jdk_65_method_123_code 22 = .ok (.aload_n 0, 1) := by decide +kernel
theorem own_d17_23 : decode jdk_65_method_123_code 23 = .ok (.arraylength, 1) := by decide +kernel
theorem own_d17_24 : decode jdk_65_method_123_code 24 = .ok (.iload_n 1, 1) := by decide +kernel
theorem own_d17_25 : decode jdk_65_method_123_code 25 = .ok (.invokestatic 304, 3) := by decide +kernel
theorem own_d17_28 : decode jdk_65_method_123_code 28 = .ok (.invokestatic 150, 3) := by decide +kernel
theorem own_d17_31 : decode jdk_65_method_123_code 31 = .ok (.aload_n 2, 1) := by decide +kernel
theorem own_d17_32 : decode jdk_65_method_123_code 32 = .ok (.areturn, 1) := by decide +kernel
theorem own_ef_own_rm17_s1 (m : MethodId) (x0 : Addr) : entryFrame m #[(.ref x0), (.int 3)] 3 = mkF m 0 #[.val (.ref x0), .val (.int 3), .unset] [] := by first | (simp [entryFrame, mkF, argsToLocals, Value.category]; done) | rfl
def own_Q17_s1 (Z : State) (a_1 : Addr) (h0 : Heap) (n0 : Nat) (v : Option Value) (h : Heap) (L : List Loc) : Prop := ∃ (x_0 : Addr), v = some (.ref x_0) ∧ Fr n0 L ∧ Keep h0 h [] ∧ own_AV Z h x_0 .int 3 (own_upd (own_upd (own_upd (fun _ => (.int 0)) 0 (.int 0)) 1 (.int 1)) 2 (.int 1)) ∧ (h0.size ≤ x_0)
set_option maxRecDepth 65536 in
set_option maxHeartbeats 40000000 in
theorem own_rm17_s1 (l : Launch) (Z : State) (a0 : Array Value) (hw : ∀ d ∈ tables_1, d.before a0 Z = true) (ws : List Jvm.Cond) (a_1 : Addr) (h0 : Heap) (n0 : Nat) (Z0 : n0 ≤ h0.size) (pr_A_a_1 : own_AV Z h0 a_1 .int 4 (own_upd (own_upd (own_upd (own_upd (fun _ => (.int 0)) 1 (.int 1)) 1 (.int 1)) 2 (.int 1)) 3 (.int 1))) :
    MetFree l (⟨"java/util/Arrays", "copyOf", "([II)[I"⟩ : MethodName) (head1 (Jvm.Cond.code (⟨"java/util/Arrays", "copyOf", "([II)[I"⟩ : MethodName) jdk_65_method_123_code 3 (some (.array .int)) :: ws) ({ frames := 1, cells := 1, slots := 3, locals := 40 } : Room)) (fun a U => a = #[(.ref a_1), (.int 3)] ∧ Z.Warmed39 U.vm ∧ U.heap = h0) (fun _ _ _ _ _ => True) (fun _ U o U' => ∃ v L, o = .returned v ∧ own_Q17_s1 Z a_1 h0 n0 v U'.heap L ∧ FrameEnd U o U' L ({ frames := 1, cells := 1, slots := 3, locals := 40 } : Room).cells ({ frames := 1, cells := 1, slots := 3, locals := 40 } : Room).slots) := by
  refine MetFree.of_bodySF (plainFor_of_name own_pn1) hisR ?_
  intro p e s m args below meth c s₁ Bd hml0 hP hK
  obtain ⟨rfl, hZ, hh⟩ := hP
  have hx := Bd.exec
  have hby := Bd.bytes
  have hml : c.maxLocals = 3 := hml0
  have hown : s.vm.findClass "java/util/Arrays" = some m.cls := findClass_of_methodNamed Bd.named
  have hnm := (name_of_methodNamed Bd.named Bd.method).1
  have X0 : Stand p l e ({ frames := 1, cells := 1, slots := 3, locals := 40 } : Room) s m #[(.ref a_1), (.int 3)] below meth c s₁ [] 0 0 := Stand.of_body Bd
  have e0 : s₁.heap = h0 := by rw [← hh, Bd.state]; rfl
  have N0 := Fr.nil n0
  have z0 : n0 ≤ h0.size := Z0
  have z1 := own_lt pr_A_a_1.lt
  have K0 : Keep h0 h0 [] := Keep.refl h0 _
  show own_Go p.tables e below (fun t o => t.status = .running ∧ Ended t below o ∧ ∃ v L, o = .returned v ∧ own_Q17_s1 Z a_1 h0 n0 v t.heap L ∧ FrameEnd s o t L ({ frames := 1, cells := 1, slots := 3, locals := 40 } : Room).cells ({ frames := 1, cells := 1, slots := 3, locals := 40 } : Room).slots) s₁ (entryFrame m #[(.ref a_1), (.int 3)] 3)
  rw [own_ef_own_rm17_s1 m a_1]
  show own_Go _ _ _ _ s₁ (mkF m 0 #[.val (.ref a_1), .val (.int 3), .unset] [])
  refine own_go (fun _ k => XS.iloadN X0.here hx rfl (hb hby own_d17_0) rfl (XS.aloadN X0.here hx rfl (hb hby own_d17_1) rfl rfl k)) ?_
  obtain ⟨q2, c2, R2, s2, t2⟩ := id pr_A_a_1
  refine own_go (fun _ k => X0.arraylength hx (by rw [e0]; exact R2.1) (State.isArrayOf_alike hZ.alike R2.2.1) (g := (mkF m 2 #[.val (.ref a_1), .val (.int 3), .unset] [(.ref a_1), (.int 3)])) rfl rfl (hb hby own_d17_2) _ k) ?_
  rw [len_of s2 q2]
  show own_Go _ _ _ _ s₁ (mkF m 3 #[.val (.ref a_1), .val (.int 3), .unset] [(.int 4), (.int 3)])
  have hc3 : ¬ ((3 : Int32) = (4 : Int32)) := by decide
  refine own_go (fun _ k => XS.icmpYes X0.here hx rfl (pc0 := 3) (pc' := 14) rfl (hb hby own_d17_3) rfl (Jvm.Free.XT.ii_ne_t hc3) (by decide) (by decide) (XS.iloadN X0.here hx rfl (hb hby own_d17_14) rfl k)) ?_
  obtain ⟨T4, h4, k4, X4, e4, E4, A4, st4⟩ := newP X0 hx hZ (hw _ (List.mem_of_getElem? (i := 9) rfl)) e0 (g := (mkF m 15 #[.val (.ref a_1), .val (.int 3), .unset] [(.int 3)])) rfl (hb hby own_d17_15) rfl (by decide) (cap := 3) (by decide) (by decide) (by decide) (by decide)
  obtain ⟨b4, g4⟩ : ∃ z, z = h0.size := ⟨_, rfl⟩
  rw [← g4] at A4 st4
  have z5 := E4.1
  have lt_b4 := own_lt A4.lt
  have K4 : Keep h0 h4 [] := K0.ext E4
  have V_b4 : own_AV Z h4 b4 .int 3 (fun _ => (.int 0)) := own_AV.new A4 (by decide)
  refine own_go (fun _ k => st4 _ k) ?_
  show own_Go _ _ _ _ T4 (mkF m 17 #[.val (.ref a_1), .val (.int 3), .unset] [(.ref b4)])
  refine own_go (fun _ k => XS.astoreN X4.here hx rfl (hb hby own_d17_17) rfl rfl (l' := #[.val (.ref a_1), .val (.int 3), .val (.ref b4)]) rfl (XS.aloadN X4.here hx rfl (hb hby own_d17_18) rfl rfl (XS.iconst X4.here hx rfl (hb hby own_d17_19) (XS.aloadN X4.here hx rfl (hb hby own_d17_20) rfl rfl k)))) ?_
  show own_Go _ _ _ _ T4 (mkF m 21 #[.val (.ref a_1), .val (.int 3), .val (.ref b4)] [(.ref b4), (.int 0), (.ref a_1)])
  refine own_go (fun _ k => XS.iconst X4.here hx rfl (hb hby own_d17_21) (XS.aloadN X4.here hx rfl (hb hby own_d17_22) rfl rfl k)) ?_
  have f6 := (pr_A_a_1.ext E4)
  obtain ⟨q7, c7, R7, s7, t7⟩ := id f6
  refine own_go (fun _ k => X4.arraylength hx (by rw [e4]; exact R7.1) (State.isArrayOf_alike hZ.alike R7.2.1) (g := (mkF m 23 #[.val (.ref a_1), .val (.int 3), .val (.ref b4)] [(.ref a_1), (.int 0), (.ref b4), (.int 0), (.ref a_1)])) rfl rfl (hb hby own_d17_23) _ k) ?_
  rw [len_of s7 q7]
  show own_Go _ _ _ _ T4 (mkF m 24 #[.val (.ref a_1), .val (.int 3), .val (.ref b4)] [(.int 4), (.int 0), (.ref b4), (.int 0), (.ref a_1)])
  refine own_go (fun _ k => XS.iloadN X4.here hx rfl (hb hby own_d17_24) rfl k) ?_
  obtain ⟨_, _, ⟨T8, L8, k8, n8⟩, -, X8, ⟨Lc8, hQ8, l8, y8, z8⟩, st8⟩ := Jvm.LawKit.callS X4 hx (y := (⟨"java/lang/Math", "min", "(II)I"⟩ : MethodName)) hown (mvT hZ (hw _ (List.mem_of_getElem? (i := 99) rfl))) (mvT hZ (hw _ (List.mem_of_getElem? (i := 100) rfl))) (mvT hZ (own_w101 hw)) (mvT hZ (hw _ (List.mem_of_getElem? (i := 102) rfl))) (by decide) (backOf (W := 4) (own_rm18_s1 l Z a0 hw []   h4 n0 (by omega) ) hZ (hw _ (List.mem_of_getElem? (i := 102) rfl)) (own_w101 hw) (by decide) (by decide)) (g := (mkF m 25 #[.val (.ref a_1), .val (.int 3), .val (.ref b4)] [(.int 3), (.int 4), (.int 0), (.ref b4), (.int 0), (.ref a_1)])) rfl (by rw [hml]; rfl) (argsL := [(.int 4), (.int 3)]) (rest := [(.int 0), (.ref b4), (.int 0), (.ref a_1)]) (lenOf own_pd9 rfl) rfl (by show 2 * 0 + _ ≤ _; exact Nat.le_of_eq rfl) (hb hby own_d17_25) (fun _ _ => ⟨rfl, e4, (by decide : 1 + 0 ≤ _), (by decide : 3 + 0 ≤ _)⟩)
  dsimp only [Pt.U, Pt.locs, Pt.cells, Pt.slots] at X8 l8 y8 z8 st8 hQ8
  have y8 : k8 = 1 := y8
  have z8 : n8 = 3 := z8
  obtain ⟨rfl, N8q, e8⟩ := hQ8
  have N8 : Fr n0 L8 := by rw [l8]; exact Fr.app N0 N8q
  refine own_go (fun _ k => st8 _ k) ?_
  show own_Go _ _ _ _ T8 (mkF m 28 #[.val (.ref a_1), .val (.int 3), .val (.ref b4)] [(.int 3), (.int 0), (.ref b4), (.int 0), (.ref a_1)])
  obtain ⟨T9, h9, L9, X9, e9, N9, Kq9, V9, st9⟩ := own_cp X8 hx hZ hown (hw _ (List.mem_of_getElem? (i := 103) rfl)) (hw _ (List.mem_of_getElem? (i := 51) rfl)) (hw _ (List.mem_of_getElem? (i := 49) rfl)) (hw _ (List.mem_of_getElem? (i := 50) rfl)) e8 f6 V_b4 (own_updf (own_updf (own_updf (own_updf (fun _ => rfl) rfl) rfl) rfl) rfl) (fun _ => rfl) (by decide) (by decide) (by decide) (by decide) (by decide) N8 (by omega) (g := (mkF m 28 #[.val (.ref a_1), .val (.int 3), .val (.ref b4)] [(.int 3), (.int 0), (.ref b4), (.int 0), (.ref a_1)])) rfl (by rw [hml]; rfl) rfl (hb hby own_d17_28) (by decide) (W := 0) (by show 2 * 0 + _ ≤ _; exact Nat.le_of_eq rfl) (by decide)
  have z10 := Kq9.1
  have K9 : Keep h0 h9 [] := K4.trans Kq9 (allS (Or.inr (by omega)) all0)
  have V9 : own_AV Z h9 b4 .int 3 (own_upd (own_upd (own_upd (fun _ => (.int 0)) 0 (.int 0)) 1 (.int 1)) 2 (.int 1)) := own_AV.congr V9 (fun i _ => congrFun (own_cpf3) i)
  refine own_go (fun _ k => st9 _ k) ?_
  show own_Go _ _ _ _ T9 (mkF m 31 #[.val (.ref a_1), .val (.int 3), .val (.ref b4)] [])
  refine own_go (fun _ k => XS.aloadN X9.here hx rfl (hb hby own_d17_31) rfl rfl k) ?_
  show own_Go _ _ _ _ T9 (mkF m 32 #[.val (.ref a_1), .val (.int 3), .val (.ref b4)] [(.ref b4)])
  obtain ⟨fs, hr, hrun, hended, hW, hsame⟩ := X9.leave (v := some (.ref b4)) (fun h => by rw [Bd.returns] at h; cases h)
  refine ⟨_, _, retOut X9 hx Bd.returns rfl (Or.inr (Or.inr (Or.inr (Or.inr ⟨rfl, rfl, rfl⟩)))) (hb hby own_d17_32) hr, hrun, hended, _, _, rfl, ?_, ⟨_, rfl⟩, hW, hsame.mono (by rw [y8]; decide) (by rw [z8]; decide)⟩
  show own_Q17_s1 Z a_1 h0 n0 _ T9.heap _
  rw [e9]
  exact ⟨b4, rfl, N9, K9, V9, (by omega)⟩
theorem own_d16_0 : decode prog_6_method_18_code 0 = .ok (.iconst 0, 1) := by decide +kernel
theorem own_d16_1 : decode prog_6_method_18_code 1 = .ok (.istore 5, 2) := by decide +kernel
theorem own_d16_3 : decode prog_6_method_18_code 3 = .ok (.iload 5, 2) := by decide +kernel
theorem own_d16_5 : decode prog_6_method_18_code 5 = .ok (.iload_n 3, 1) := by decide +kernel
theorem own_d16_6 : decode prog_6_method_18_code 6 = .ok (.if_icmp .ge 22, 3) := by decide +kernel
theorem own_d16_9 : decode prog_6_method_18_code 9 = .ok (.aload 4, 2) := by decide +kernel
theorem own_d16_11 : decode prog_6_method_18_code 11 = .ok (.aload_n 1, 1) := by decide +kernel
theorem own_d16_12 : decode prog_6_method_18_code 12 = .ok (.iload 5, 2) := by decide +kernel
theorem own_d16_14 : decode prog_6_method_18_code 14 = .ok (.iaload, 1) := by decide +kernel
theorem own_d16_15 : decode prog_6_method_18_code 15 = .ok (.iconst 1, 1) := by decide +kernel
theorem own_d16_16 : decode prog_6_method_18_code 16 = .ok (.iadd, 1) := by decide +kernel
theorem own_d16_17 : decode prog_6_method_18_code 17 = .ok (.dup2, 1) := by decide +kernel
theorem own_d16_18 : decode prog_6_method_18_code 18 = .ok (.iaload, 1) := by decide +kernel
theorem own_d16_19 : decode prog_6_method_18_code 19 = .ok (.iconst 1, 1) := by decide +kernel
theorem own_d16_20 : decode prog_6_method_18_code 20 = .ok (.iadd, 1) := by decide +kernel
theorem own_d16_21 : decode prog_6_method_18_code 21 = .ok (.iastore, 1) := by decide +kernel
theorem own_d16_22 : decode prog_6_method_18_code 22 = .ok (.iinc 5 1, 3) := by decide +kernel
theorem own_d16_25 : decode prog_6_method_18_code 25 = .ok (.goto (-22), 3) := by decide +kernel
theorem own_d16_28 : decode prog_6_method_18_code 28 = .ok (.iconst 0, 1) := by decide +kernel
theorem own_d16_29 : decode prog_6_method_18_code 29 = .ok (.istore 5, 2) := by decide +kernel
theorem own_d16_31 : decode prog_6_method_18_code 31 = .ok (.iload 5, 2) := by decide +kernel
theorem own_d16_33 : decode prog_6_method_18_code 33 = .ok (.aload_n 0, 1) := by decide +kernel
theorem own_d16_34 : decode prog_6_method_18_code 34 = .ok (.getfield 22, 3) := by decide +kernel
theorem own_d16_37 : decode prog_6_method_18_code 37 = .ok (.if_icmp .ge 24, 3) := by decide +kernel
theorem own_d16_40 : decode prog_6_method_18_code 40 = .ok (.aload 4, 2) := by decide +kernel
theorem own_d16_42 : decode prog_6_method_18_code 42 = .ok (.iload 5, 2) := by decide +kernel
theorem own_d16_44 : decode prog_6_method_18_code 44 = .ok (.iconst 1, 1) := by decide +kernel
theorem own_d16_45 : decode prog_6_method_18_code 45 = .ok (.iadd, 1) := by decide +kernel
theorem own_d16_46 : decode prog_6_method_18_code 46 = .ok (.dup2, 1) := by decide +kernel
theorem own_d16_47 : decode prog_6_method_18_code 47 = .ok (.iaload, 1) := by decide +kernel
theorem own_d16_48 : decode prog_6_method_18_code 48 = .ok (.aload 4, 2) := by decide +kernel
theorem own_d16_50 : decode prog_6_method_18_code 50 = .ok (.iload 5, 2) := by decide +kernel
theorem own_d16_52 : decode prog_6_method_18_code 52 = .ok (.iaload, 1) := by decide +kernel
theorem own_d16_53 : decode prog_6_method_18_code 53 = .ok (.iadd, 1) := by decide +kernel
theorem own_d16_54 : decode prog_6_method_18_code 54 = .ok (.iastore, 1) := by decide +kernel
theorem own_d16_55 : decode prog_6_method_18_code 55 = .ok (.iinc 5 1, 3) := by decide +kernel
theorem own_d16_58 : decode prog_6_method_18_code 58 = .ok (.goto (-27), 3) := by decide +kernel
theorem own_d16_61 : decode prog_6_method_18_code 61 = .ok (.aload 4, 2) := by decide +kernel
theorem own_d16_63 : decode prog_6_method_18_code 63 = .ok (.aload_n 0, 1) := by decide +kernel
theorem own_d16_64 : decode prog_6_method_18_code 64 = .ok (.getfield 22, 3) := by decide +kernel
theorem own_d16_67 : decode prog_6_method_18_code 67 = .ok (.invokestatic 33, 3) := by decide +kernel
theorem own_d16_70 : decode prog_6_method_18_code 70 = .ok (.astore 5, 2) := by decide +kernel
theorem own_d16_72 : decode prog_6_method_18_code 72 = .ok (.iload_n 3, 1) := by decide +kernel
theorem own_d16_73 : decode prog_6_method_18_code 73 = .ok (.newarray .int, 2) := by decide +kernel
theorem own_d16_75 : decode prog_6_method_18_code 75 = .ok (.astore 6, 2) := by decide +kernel
theorem own_d16_77 : decode prog_6_method_18_code 77 = .ok (.iconst 0, 1) := by decide +kernel
theorem own_d16_78 : decode prog_6_method_18_code 78 = .ok (.istore 7, 2) := by decide +kernel
theorem own_d16_80 : decode prog_6_method_18_code 80 = .ok (.iload 7, 2) := by decide +kernel
theorem own_d16_82 : decode prog_6_method_18_code 82 = .ok (.iload_n 3, 1) := by decide +kernel
theorem own_d16_83 : decode prog_6_method_18_code 83 = .ok (.if_icmp .ge 34, 3) := by decide +kernel
theorem own_d16_86 : decode prog_6_method_18_code 86 = .ok (.aload 6, 2) := by decide +kernel
theorem own_d16_88 : decode prog_6_method_18_code 88 = .ok (.aload 5, 2) := by decide +kernel
theorem own_d16_90 : decode prog_6_method_18_code 90 = .ok (.aload_n 1, 1) := by decide +kernel
theorem own_d16_91 : decode prog_6_method_18_code 91 = .ok (.iload 7, 2) := by decide +kernel
theorem own_d16_93 : decode prog_6_method_18_code 93 = .ok (.iaload, 1) := by decide +kernel
theorem own_d16_94 : decode prog_6_method_18_code 94 = .ok (.iaload, 1) := by decide +kernel
theorem own_d16_95 : decode prog_6_method_18_code 95 = .ok (.aload_n 2, 1) := by decide +kernel
theorem own_d16_96 : decode prog_6_method_18_code 96 = .ok (.iload 7, 2) := by decide +kernel
theorem own_d16_98 : decode prog_6_method_18_code 98 = .ok (.iaload, 1) := by decide +kernel
theorem own_d16_99 : decode prog_6_method_18_code 99 = .ok (.iastore, 1) := by decide +kernel
theorem own_d16_100 : decode prog_6_method_18_code 100 = .ok (.aload 5, 2) := by decide +kernel
theorem own_d16_102 : decode prog_6_method_18_code 102 = .ok (.aload_n 1, 1) := by decide +kernel
theorem own_d16_103 : decode prog_6_method_18_code 103 = .ok (.iload 7, 2) := by decide +kernel
theorem own_d16_105 : decode prog_6_method_18_code 105 = .ok (.iaload, 1) := by decide +kernel
theorem own_d16_106 : decode prog_6_method_18_code 106 = .ok (.dup2, 1) := by decide +kernel
theorem own_d16_107 : decode prog_6_method_18_code 107 = .ok (.iaload, 1) := by decide +kernel
theorem own_d16_108 : decode prog_6_method_18_code 108 = .ok (.iconst 1, 1) := by decide +kernel
theorem own_d16_109 : decode prog_6_method_18_code 109 = .ok (.iadd, 1) := by decide +kernel
theorem own_d16_110 : decode prog_6_method_18_code 110 = .ok (.iastore, 1) := by decide +kernel
theorem own_d16_111 : decode prog_6_method_18_code 111 = .ok (.iinc 7 1, 3) := by decide +kernel
theorem own_d16_114 : decode prog_6_method_18_code 114 = .ok (.goto (-34), 3) := by decide +kernel
theorem own_d16_117 : decode prog_6_method_18_code 117 = .ok (.aload 6, 2) := by decide +kernel
theorem own_d16_119 : decode prog_6_method_18_code 119 = .ok (.areturn, 1) := by decide +kernel
theorem own_ef_own_rm16_s1 (m : MethodId) (x0 : Addr) (x1 : Addr) (x2 : Addr) (x4 : Addr) : entryFrame m #[(.ref x0), (.ref x1), (.ref x2), (.int 1), (.ref x4)] 8 = mkF m 0 #[.val (.ref x0), .val (.ref x1), .val (.ref x2), .val (.int 1), .val (.ref x4), .unset, .unset, .unset] [] := by first | (simp [entryFrame, mkF, argsToLocals, Value.category]; done) | rfl
def own_Q16_s1 (Z : State) (a_1 : Addr) (a_2 : Addr) (a_3 : Addr) (a_5 : Addr) (h0 : Heap) (n0 : Nat) (v : Option Value) (h : Heap) (L : List Loc) : Prop := ∃ (x_0 : Addr), v = some (.ref x_0) ∧ Fr n0 L ∧ Keep h0 h [a_5] ∧ own_AV Z h a_5 .int 4 (own_upd (own_upd (own_upd (own_upd (fun _ => (.int 0)) 1 (.int 1)) 1 (.int 1)) 2 (.int 1)) 3 (.int 1)) ∧ own_AV Z h x_0 .int 1 (own_upd (fun _ => (.int 0)) 0 (.int 0)) ∧ (h0.size ≤ x_0)
set_option maxRecDepth 65536 in
set_option maxHeartbeats 40000000 in
theorem own_rm16_s1 (l : Launch) (Z : State) (a0 : Array Value) (hw : ∀ d ∈ tables_1, d.before a0 Z = true) (ws : List Jvm.Cond) (a_1 : Addr) (a_2 : Addr) (a_3 : Addr) (a_5 : Addr) (h0 : Heap) (n0 : Nat) (Z0 : n0 ≤ h0.size) (pr_A_a_2 : own_AV Z h0 a_2 .int 64 (own_upd (fun _ => (.int 0)) 0 (.int 0))) (pr_A_a_3 : own_AV Z h0 a_3 .int 1 (own_upd (fun _ => (.int 0)) 0 (.int 0))) (pr_A_a_5 : own_AV Z h0 a_5 .int 4 (fun _ => (.int 0))) (pr_F_a_1_variableCount : Fld Z h0 a_1 own_N1 "variableCount" "I" (.int 3)) (ho_ : own_lts [a_1, a_2, a_3, a_5]) (gw_a_5 : n0 ≤ a_5) :
    MetFree l (⟨own_N1, "groupByVariable", "([I[II[I)[I"⟩ : MethodName) (head1 (Jvm.Cond.code (⟨own_N1, "groupByVariable", "([I[II[I)[I"⟩ : MethodName) prog_6_method_18_code 8 (some (.array .int)) :: ws) ({ frames := 2, cells := 2, slots := 4, locals := 54 } : Room)) (fun a U => a = #[(.ref a_1), (.ref a_2), (.ref a_3), (.int 1), (.ref a_5)] ∧ Z.Warmed39 U.vm ∧ U.heap = h0) (fun _ _ _ _ _ => True) (fun _ U o U' => ∃ v L, o = .returned v ∧ own_Q16_s1 Z a_1 a_2 a_3 a_5 h0 n0 v U'.heap L ∧ FrameEnd U o U' L ({ frames := 2, cells := 2, slots := 4, locals := 54 } : Room).cells ({ frames := 2, cells := 2, slots := 4, locals := 54 } : Room).slots) := by
  refine MetFree.of_bodySF (plainFor_of_name own_pn0) hisR ?_
  intro p e s m args below meth c s₁ Bd hml0 hP hK
  obtain ⟨rfl, hZ, hh⟩ := hP
  have hx := Bd.exec
  have hby := Bd.bytes
  have hml : c.maxLocals = 8 := hml0
  have hown : s.vm.findClass own_N1 = some m.cls := findClass_of_methodNamed Bd.named
  have hnm := (name_of_methodNamed Bd.named Bd.method).1
  have X0 : Stand p l e ({ frames := 2, cells := 2, slots := 4, locals := 54 } : Room) s m #[(.ref a_1), (.ref a_2), (.ref a_3), (.int 1), (.ref a_5)] below meth c s₁ [] 0 0 := Stand.of_body Bd
  have e0 : s₁.heap = h0 := by rw [← hh, Bd.state]; rfl
  have N0 := Fr.nil n0
  have z0 : n0 ≤ h0.size := Z0
  have z1 := own_lt pr_A_a_2.lt
  have z2 := own_lt pr_A_a_3.lt
  have z3 := own_lt pr_A_a_5.lt
  have z4 := own_lt pr_F_a_1_variableCount.lt
  have ho5 := ho_
  simp only [own_lts, and_true] at ho5
  have K0 : Keep h0 h0 [a_5] := Keep.refl h0 _
  show own_Go p.tables e below (fun t o => t.status = .running ∧ Ended t below o ∧ ∃ v L, o = .returned v ∧ own_Q16_s1 Z a_1 a_2 a_3 a_5 h0 n0 v t.heap L ∧ FrameEnd s o t L ({ frames := 2, cells := 2, slots := 4, locals := 54 } : Room).cells ({ frames := 2, cells := 2, slots := 4, locals := 54 } : Room).slots) s₁ (entryFrame m #[(.ref a_1), (.ref a_2), (.ref a_3), (.int 1), (.ref a_5)] 8)
  rw [own_ef_own_rm16_s1 m a_1 a_2 a_3 a_5]
  show own_Go _ _ _ _ s₁ (mkF m 0 #[.val (.ref a_1), .val (.ref a_2), .val (.ref a_3), .val (.int 1), .val (.ref a_5), .unset, .unset, .unset] [])
  refine own_go (fun _ k => XS.iconst X0.here hx rfl (hb hby own_d16_0) (XS.istore X0.here hx rfl (hb hby own_d16_1) rfl (l' := #[.val (.ref a_1), .val (.ref a_2), .val (.ref a_3), .val (.int 1), .val (.ref a_5), .val (.int 0), .unset, .unset]) rfl (XS.iload X0.here hx rfl (hb hby own_d16_3) rfl (XS.iloadN X0.here hx rfl (hb hby own_d16_5) rfl k)))) ?_
  show own_Go _ _ _ _ s₁ (mkF m 6 #[.val (.ref a_1), .val (.ref a_2), .val (.ref a_3), .val (.int 1), .val (.ref a_5), .val (.int 0), .unset, .unset] [(.int 1), (.int 0)])
  have hc6 : (0 : Int32) < (1 : Int32) := by decide
  refine own_go (fun _ k => XS.icmpNo X0.here hx rfl (hb hby own_d16_6) rfl (Jvm.Free.XT.ii_ge_f hc6) (XS.aload X0.here hx rfl (hb hby own_d16_9) rfl rfl (XS.aloadN X0.here hx rfl (hb hby own_d16_11) rfl rfl (XS.iload X0.here hx rfl (hb hby own_d16_12) rfl k)))) ?_
  show own_Go _ _ _ _ s₁ (mkF m 14 #[.val (.ref a_1), .val (.ref a_2), .val (.ref a_3), .val (.int 1), .val (.ref a_5), .val (.int 0), .unset, .unset] [(.int 0), (.ref a_2), (.ref a_5)])
  obtain ⟨q7, c7, R7, s7, t7⟩ := id pr_A_a_2
  have hin7 : ¬ ((0 : Int32) < 0 ∨ c7.slots.size ≤ ((0 : Int32)).toNatClampNeg) := inb_of s7 ⟨by decide, by decide⟩
  have u7 : c7.slots[((0 : Int32)).toNatClampNeg]? = some (.int 0) := own_at (k := 0) t7 s7 hin7 (by decide) (rfl)
  refine own_go (fun _ k => X0.iaload hx (j := (0 : Int32)) (v := (.int 0)) (by rw [e0]; exact R7.1) (State.isArrayOf_alike hZ.alike R7.2.1) R7.2.2 hin7 u7 (g := (mkF m 14 #[.val (.ref a_1), .val (.ref a_2), .val (.ref a_3), .val (.int 1), .val (.ref a_5), .val (.int 0), .unset, .unset] [(.int 0), (.ref a_2), (.ref a_5)])) rfl rfl (hb hby own_d16_14) _ k) ?_
  show own_Go _ _ _ _ s₁ (mkF m 15 #[.val (.ref a_1), .val (.ref a_2), .val (.ref a_3), .val (.int 1), .val (.ref a_5), .val (.int 0), .unset, .unset] [(.int 0), (.ref a_5)])
  refine own_go (fun _ k => XS.iconst X0.here hx rfl (hb hby own_d16_15) (XS.iadd X0.here hx rfl (hb hby own_d16_16) rfl k)) ?_
  have sd8 : ∀ target, Steps p.tables e below (s₁.setTop (mkF m 18 #[.val (.ref a_1), .val (.ref a_2), .val (.ref a_3), .val (.int 1), .val (.ref a_5), .val (.int 0), .unset, .unset] [(.int 1), (.ref a_5), (.int 1), (.ref a_5)])) target → Steps p.tables e below (s₁.setTop (mkF m 17 #[.val (.ref a_1), .val (.ref a_2), .val (.ref a_3), .val (.int 1), .val (.ref a_5), .val (.int 0), .unset, .unset] [(.int 1), (.ref a_5)])) target := fun target kk => by
    jvm_step X0.here [X0.here.top, hx, (hb hby own_d16_17), Value.category]
    exact kk
  refine own_go (fun _ k => sd8 _ k) ?_
  show own_Go _ _ _ _ s₁ (mkF m 18 #[.val (.ref a_1), .val (.ref a_2), .val (.ref a_3), .val (.int 1), .val (.ref a_5), .val (.int 0), .unset, .unset] [(.int 1), (.ref a_5), (.int 1), (.ref a_5)])
  obtain ⟨q9, c9, R9, s9, t9⟩ := id pr_A_a_5
  have hin9 : ¬ ((1 : Int32) < 0 ∨ c9.slots.size ≤ ((1 : Int32)).toNatClampNeg) := inb_of s9 ⟨by decide, by decide⟩
  have u9 : c9.slots[((1 : Int32)).toNatClampNeg]? = some (.int 0) := own_at (k := 1) t9 s9 hin9 (by decide) (rfl)
  refine own_go (fun _ k => X0.iaload hx (j := (1 : Int32)) (v := (.int 0)) (by rw [e0]; exact R9.1) (State.isArrayOf_alike hZ.alike R9.2.1) R9.2.2 hin9 u9 (g := (mkF m 18 #[.val (.ref a_1), .val (.ref a_2), .val (.ref a_3), .val (.int 1), .val (.ref a_5), .val (.int 0), .unset, .unset] [(.int 1), (.ref a_5), (.int 1), (.ref a_5)])) rfl rfl (hb hby own_d16_18) _ k) ?_
  show own_Go _ _ _ _ s₁ (mkF m 19 #[.val (.ref a_1), .val (.ref a_2), .val (.ref a_3), .val (.int 1), .val (.ref a_5), .val (.int 0), .unset, .unset] [(.int 0), (.int 1), (.ref a_5)])
  refine own_go (fun _ k => XS.iconst X0.here hx rfl (hb hby own_d16_19) (XS.iadd X0.here hx rfl (hb hby own_d16_20) rfl k)) ?_
  obtain ⟨q10, c10, R10, s10, t10⟩ := id pr_A_a_5
  have hin10 : ¬ ((1 : Int32) < 0 ∨ c10.slots.size ≤ ((1 : Int32)).toNatClampNeg) := inb_of s10 ⟨by decide, by decide⟩
  obtain ⟨T11, h11, X11, e11, W11, st11⟩ := stI X0 hx hZ e0 R10 (j := (1 : Int32)) hin10 (g := (mkF m 21 #[.val (.ref a_1), .val (.ref a_2), .val (.ref a_3), .val (.int 1), .val (.ref a_5), .val (.int 0), .unset, .unset] [(.int 1), (.int 1), (.ref a_5)])) rfl rfl (hb hby own_d16_21)
  have V11 : own_AV Z h11 a_5 .int 4 (own_upd (fun _ => (.int 0)) 1 (.int 1)) := own_AV.set (k := 1) pr_A_a_5 W11 (by decide)
  have z12 := W11.size
  have K11 : Keep h0 h11 [a_5] := K0.wr W11 (Or.inl (List.mem_of_getElem? (i := 0) rfl))
  have N11 := Fr.snoc X11 N0 (by omega : n0 ≤ a_5)
  refine own_go (fun _ k => st11 _ k) ?_
  show own_Go _ _ _ _ T11 (mkF m 22 #[.val (.ref a_1), .val (.ref a_2), .val (.ref a_3), .val (.int 1), .val (.ref a_5), .val (.int 0), .unset, .unset] [])
  refine own_go (fun _ k => XS.iinc X11.here hx rfl (hb hby own_d16_22) rfl (l' := #[.val (.ref a_1), .val (.ref a_2), .val (.ref a_3), .val (.int 1), .val (.ref a_5), .val (.int 1), .unset, .unset]) rfl (XS.goto X11.here hx rfl (pc0 := 25) (pc' := 3) rfl (hb hby own_d16_25) (by decide) (by decide) (XS.iload X11.here hx rfl (hb hby own_d16_3) rfl (XS.iloadN X11.here hx rfl (hb hby own_d16_5) rfl k)))) ?_
  show own_Go _ _ _ _ T11 (mkF m 6 #[.val (.ref a_1), .val (.ref a_2), .val (.ref a_3), .val (.int 1), .val (.ref a_5), .val (.int 1), .unset, .unset] [(.int 1), (.int 1)])
  have hc13 : ¬ ((1 : Int32) < (1 : Int32)) := by decide
  refine own_go (fun _ k => XS.icmpYes X11.here hx rfl (pc0 := 6) (pc' := 28) rfl (hb hby own_d16_6) rfl (Jvm.Free.XT.ii_ge_t hc13) (by decide) (by decide) (XS.iconst X11.here hx rfl (hb hby own_d16_28) (XS.istore X11.here hx rfl (hb hby own_d16_29) rfl (l' := #[.val (.ref a_1), .val (.ref a_2), .val (.ref a_3), .val (.int 1), .val (.ref a_5), .val (.int 0), .unset, .unset]) rfl (XS.iload X11.here hx rfl (hb hby own_d16_31) rfl k)))) ?_
  show own_Go _ _ _ _ T11 (mkF m 33 #[.val (.ref a_1), .val (.ref a_2), .val (.ref a_3), .val (.int 1), .val (.ref a_5), .val (.int 0), .unset, .unset] [(.int 0)])
  refine own_go (fun _ k => XS.aloadN X11.here hx rfl (hb hby own_d16_33) rfl rfl k) ?_
  have f14 := (pr_F_a_1_variableCount.other W11 (Or.inl (own_ne (by omega))))
  obtain ⟨T15, X15, e15, st15⟩ := getF X11 hx hZ hown (host := "") (Or.inl (own_w23 hw)) Via.refl e11 f14 (g := (mkF m 34 #[.val (.ref a_1), .val (.ref a_2), .val (.ref a_3), .val (.int 1), .val (.ref a_5), .val (.int 0), .unset, .unset] [(.ref a_1), (.int 0)])) rfl rfl (hb hby own_d16_34)
  refine own_go (fun _ k => st15 _ k) ?_
  show own_Go _ _ _ _ T15 (mkF m 37 #[.val (.ref a_1), .val (.ref a_2), .val (.ref a_3), .val (.int 1), .val (.ref a_5), .val (.int 0), .unset, .unset] [(.int 3), (.int 0)])
  have hc16 : (0 : Int32) < (3 : Int32) := by decide
  refine own_go (fun _ k => XS.icmpNo X15.here hx rfl (hb hby own_d16_37) rfl (Jvm.Free.XT.ii_ge_f hc16) (XS.aload X15.here hx rfl (hb hby own_d16_40) rfl rfl (XS.iload X15.here hx rfl (hb hby own_d16_42) rfl (XS.iconst X15.here hx rfl (hb hby own_d16_44) k)))) ?_
  show own_Go _ _ _ _ T15 (mkF m 45 #[.val (.ref a_1), .val (.ref a_2), .val (.ref a_3), .val (.int 1), .val (.ref a_5), .val (.int 0), .unset, .unset] [(.int 1), (.int 0), (.ref a_5)])
  refine own_go (fun _ k => XS.iadd X15.here hx rfl (hb hby own_d16_45) rfl k) ?_
  have sd17 : ∀ target, Steps p.tables e below (T15.setTop (mkF m 47 #[.val (.ref a_1), .val (.ref a_2), .val (.ref a_3), .val (.int 1), .val (.ref a_5), .val (.int 0), .unset, .unset] [(.int 1), (.ref a_5), (.int 1), (.ref a_5)])) target → Steps p.tables e below (T15.setTop (mkF m 46 #[.val (.ref a_1), .val (.ref a_2), .val (.ref a_3), .val (.int 1), .val (.ref a_5), .val (.int 0), .unset, .unset] [(.int 1), (.ref a_5)])) target := fun target kk => by
    jvm_step X15.here [X15.here.top, hx, (hb hby own_d16_46), Value.category]
    exact kk
  refine own_go (fun _ k => sd17 _ k) ?_
  show own_Go _ _ _ _ T15 (mkF m 47 #[.val (.ref a_1), .val (.ref a_2), .val (.ref a_3), .val (.int 1), .val (.ref a_5), .val (.int 0), .unset, .unset] [(.int 1), (.ref a_5), (.int 1), (.ref a_5)])
  obtain ⟨q18, c18, R18, s18, t18⟩ := id V11
  have hin18 : ¬ ((1 : Int32) < 0 ∨ c18.slots.size ≤ ((1 : Int32)).toNatClampNeg) := inb_of s18 ⟨by decide, by decide⟩
  have u18 : c18.slots[((1 : Int32)).toNatClampNeg]? = some (.int 1) := own_at (k := 1) t18 s18 hin18 (by decide) (rfl)
  refine own_go (fun _ k => X15.iaload hx (j := (1 : Int32)) (v := (.int 1)) (by rw [e15]; exact R18.1) (State.isArrayOf_alike hZ.alike R18.2.1) R18.2.2 hin18 u18 (g := (mkF m 47 #[.val (.ref a_1), .val (.ref a_2), .val (.ref a_3), .val (.int 1), .val (.ref a_5), .val (.int 0), .unset, .unset] [(.int 1), (.ref a_5), (.int 1), (.ref a_5)])) rfl rfl (hb hby own_d16_47) _ k) ?_
  show own_Go _ _ _ _ T15 (mkF m 48 #[.val (.ref a_1), .val (.ref a_2), .val (.ref a_3), .val (.int 1), .val (.ref a_5), .val (.int 0), .unset, .unset] [(.int 1), (.int 1), (.ref a_5)])
  refine own_go (fun _ k => XS.aload X15.here hx rfl (hb hby own_d16_48) rfl rfl (XS.iload X15.here hx rfl (hb hby own_d16_50) rfl k)) ?_
  obtain ⟨q19, c19, R19, s19, t19⟩ := id V11
  have hin19 : ¬ ((0 : Int32) < 0 ∨ c19.slots.size ≤ ((0 : Int32)).toNatClampNeg) := inb_of s19 ⟨by decide, by decide⟩
  have u19 : c19.slots[((0 : Int32)).toNatClampNeg]? = some (.int 0) := own_at (k := 0) t19 s19 hin19 (by decide) (rfl)
  refine own_go (fun _ k => X15.iaload hx (j := (0 : Int32)) (v := (.int 0)) (by rw [e15]; exact R19.1) (State.isArrayOf_alike hZ.alike R19.2.1) R19.2.2 hin19 u19 (g := (mkF m 52 #[.val (.ref a_1), .val (.ref a_2), .val (.ref a_3), .val (.int 1), .val (.ref a_5), .val (.int 0), .unset, .unset] [(.int 0), (.ref a_5), (.int 1), (.int 1), (.ref a_5)])) rfl rfl (hb hby own_d16_52) _ k) ?_
  show own_Go _ _ _ _ T15 (mkF m 53 #[.val (.ref a_1), .val (.ref a_2), .val (.ref a_3), .val (.int 1), .val (.ref a_5), .val (.int 0), .unset, .unset] [(.int 0), (.int 1), (.int 1), (.ref a_5)])
  refine own_go (fun _ k => XS.iadd X15.here hx rfl (hb hby own_d16_53) rfl k) ?_
  obtain ⟨q20, c20, R20, s20, t20⟩ := id V11
  have hin20 : ¬ ((1 : Int32) < 0 ∨ c20.slots.size ≤ ((1 : Int32)).toNatClampNeg) := inb_of s20 ⟨by decide, by decide⟩
  obtain ⟨T21, h21, X21, e21, W21, st21⟩ := stI X15 hx hZ e15 R20 (j := (1 : Int32)) hin20 (g := (mkF m 54 #[.val (.ref a_1), .val (.ref a_2), .val (.ref a_3), .val (.int 1), .val (.ref a_5), .val (.int 0), .unset, .unset] [(.int 1), (.int 1), (.ref a_5)])) rfl rfl (hb hby own_d16_54)
  have V21 : own_AV Z h21 a_5 .int 4 (own_upd (own_upd (fun _ => (.int 0)) 1 (.int 1)) 1 (.int 1)) := own_AV.set (k := 1) V11 W21 (by decide)
  have z22 := W21.size
  have K21 : Keep h0 h21 [a_5] := K11.wr W21 (Or.inl (List.mem_of_getElem? (i := 0) rfl))
  have N21 := Fr.snoc X21 N11 (by omega : n0 ≤ a_5)
  refine own_go (fun _ k => st21 _ k) ?_
  show own_Go _ _ _ _ T21 (mkF m 55 #[.val (.ref a_1), .val (.ref a_2), .val (.ref a_3), .val (.int 1), .val (.ref a_5), .val (.int 0), .unset, .unset] [])
  refine own_go (fun _ k => XS.iinc X21.here hx rfl (hb hby own_d16_55) rfl (l' := #[.val (.ref a_1), .val (.ref a_2), .val (.ref a_3), .val (.int 1), .val (.ref a_5), .val (.int 1), .unset, .unset]) rfl (XS.goto X21.here hx rfl (pc0 := 58) (pc' := 31) rfl (hb hby own_d16_58) (by decide) (by decide) (XS.iload X21.here hx rfl (hb hby own_d16_31) rfl (XS.aloadN X21.here hx rfl (hb hby own_d16_33) rfl rfl k)))) ?_
  show own_Go _ _ _ _ T21 (mkF m 34 #[.val (.ref a_1), .val (.ref a_2), .val (.ref a_3), .val (.int 1), .val (.ref a_5), .val (.int 1), .unset, .unset] [(.ref a_1), (.int 1)])
  have f23 := (f14.other W21 (Or.inl (own_ne (by omega))))
  obtain ⟨T24, X24, e24, st24⟩ := getF X21 hx hZ hown (host := "") (Or.inl (own_w23 hw)) Via.refl e21 f23 (g := (mkF m 34 #[.val (.ref a_1), .val (.ref a_2), .val (.ref a_3), .val (.int 1), .val (.ref a_5), .val (.int 1), .unset, .unset] [(.ref a_1), (.int 1)])) rfl rfl (hb hby own_d16_34)
  refine own_go (fun _ k => st24 _ k) ?_
  show own_Go _ _ _ _ T24 (mkF m 37 #[.val (.ref a_1), .val (.ref a_2), .val (.ref a_3), .val (.int 1), .val (.ref a_5), .val (.int 1), .unset, .unset] [(.int 3), (.int 1)])
  have hc25 : (1 : Int32) < (3 : Int32) := by decide
  refine own_go (fun _ k => XS.icmpNo X24.here hx rfl (hb hby own_d16_37) rfl (Jvm.Free.XT.ii_ge_f hc25) (XS.aload X24.here hx rfl (hb hby own_d16_40) rfl rfl (XS.iload X24.here hx rfl (hb hby own_d16_42) rfl (XS.iconst X24.here hx rfl (hb hby own_d16_44) k)))) ?_
  show own_Go _ _ _ _ T24 (mkF m 45 #[.val (.ref a_1), .val (.ref a_2), .val (.ref a_3), .val (.int 1), .val (.ref a_5), .val (.int 1), .unset, .unset] [(.int 1), (.int 1), (.ref a_5)])
  refine own_go (fun _ k => XS.iadd X24.here hx rfl (hb hby own_d16_45) rfl k) ?_
  have sd26 : ∀ target, Steps p.tables e below (T24.setTop (mkF m 47 #[.val (.ref a_1), .val (.ref a_2), .val (.ref a_3), .val (.int 1), .val (.ref a_5), .val (.int 1), .unset, .unset] [(.int 2), (.ref a_5), (.int 2), (.ref a_5)])) target → Steps p.tables e below (T24.setTop (mkF m 46 #[.val (.ref a_1), .val (.ref a_2), .val (.ref a_3), .val (.int 1), .val (.ref a_5), .val (.int 1), .unset, .unset] [(.int 2), (.ref a_5)])) target := fun target kk => by
    jvm_step X24.here [X24.here.top, hx, (hb hby own_d16_46), Value.category]
    exact kk
  refine own_go (fun _ k => sd26 _ k) ?_
  show own_Go _ _ _ _ T24 (mkF m 47 #[.val (.ref a_1), .val (.ref a_2), .val (.ref a_3), .val (.int 1), .val (.ref a_5), .val (.int 1), .unset, .unset] [(.int 2), (.ref a_5), (.int 2), (.ref a_5)])
  obtain ⟨q27, c27, R27, s27, t27⟩ := id V21
  have hin27 : ¬ ((2 : Int32) < 0 ∨ c27.slots.size ≤ ((2 : Int32)).toNatClampNeg) := inb_of s27 ⟨by decide, by decide⟩
  have u27 : c27.slots[((2 : Int32)).toNatClampNeg]? = some (.int 0) := own_at (k := 2) t27 s27 hin27 (by decide) (rfl)
  refine own_go (fun _ k => X24.iaload hx (j := (2 : Int32)) (v := (.int 0)) (by rw [e24]; exact R27.1) (State.isArrayOf_alike hZ.alike R27.2.1) R27.2.2 hin27 u27 (g := (mkF m 47 #[.val (.ref a_1), .val (.ref a_2), .val (.ref a_3), .val (.int 1), .val (.ref a_5), .val (.int 1), .unset, .unset] [(.int 2), (.ref a_5), (.int 2), (.ref a_5)])) rfl rfl (hb hby own_d16_47) _ k) ?_
  show own_Go _ _ _ _ T24 (mkF m 48 #[.val (.ref a_1), .val (.ref a_2), .val (.ref a_3), .val (.int 1), .val (.ref a_5), .val (.int 1), .unset, .unset] [(.int 0), (.int 2), (.ref a_5)])
  refine own_go (fun _ k => XS.aload X24.here hx rfl (hb hby own_d16_48) rfl rfl (XS.iload X24.here hx rfl (hb hby own_d16_50) rfl k)) ?_
  obtain ⟨q28, c28, R28, s28, t28⟩ := id V21
  have hin28 : ¬ ((1 : Int32) < 0 ∨ c28.slots.size ≤ ((1 : Int32)).toNatClampNeg) := inb_of s28 ⟨by decide, by decide⟩
  have u28 : c28.slots[((1 : Int32)).toNatClampNeg]? = some (.int 1) := own_at (k := 1) t28 s28 hin28 (by decide) (rfl)
  refine own_go (fun _ k => X24.iaload hx (j := (1 : Int32)) (v := (.int 1)) (by rw [e24]; exact R28.1) (State.isArrayOf_alike hZ.alike R28.2.1) R28.2.2 hin28 u28 (g := (mkF m 52 #[.val (.ref a_1), .val (.ref a_2), .val (.ref a_3), .val (.int 1), .val (.ref a_5), .val (.int 1), .unset, .unset] [(.int 1), (.ref a_5), (.int 0), (.int 2), (.ref a_5)])) rfl rfl (hb hby own_d16_52) _ k) ?_
  show own_Go _ _ _ _ T24 (mkF m 53 #[.val (.ref a_1), .val (.ref a_2), .val (.ref a_3), .val (.int 1), .val (.ref a_5), .val (.int 1), .unset, .unset] [(.int 1), (.int 0), (.int 2), (.ref a_5)])
  refine own_go (fun _ k => XS.iadd X24.here hx rfl (hb hby own_d16_53) rfl k) ?_
  obtain ⟨q29, c29, R29, s29, t29⟩ := id V21
  have hin29 : ¬ ((2 : Int32) < 0 ∨ c29.slots.size ≤ ((2 : Int32)).toNatClampNeg) := inb_of s29 ⟨by decide, by decide⟩
  obtain ⟨T30, h30, X30, e30, W30, st30⟩ := stI X24 hx hZ e24 R29 (j := (2 : Int32)) hin29 (g := (mkF m 54 #[.val (.ref a_1), .val (.ref a_2), .val (.ref a_3), .val (.int 1), .val (.ref a_5), .val (.int 1), .unset, .unset] [(.int 1), (.int 2), (.ref a_5)])) rfl rfl (hb hby own_d16_54)
  have V30 : own_AV Z h30 a_5 .int 4 (own_upd (own_upd (own_upd (fun _ => (.int 0)) 1 (.int 1)) 1 (.int 1)) 2 (.int 1)) := own_AV.set (k := 2) V21 W30 (by decide)
  have z31 := W30.size
  have K30 : Keep h0 h30 [a_5] := K21.wr W30 (Or.inl (List.mem_of_getElem? (i := 0) rfl))
  have N30 := Fr.snoc X30 N21 (by omega : n0 ≤ a_5)
  refine own_go (fun _ k => st30 _ k) ?_
  show own_Go _ _ _ _ T30 (mkF m 55 #[.val (.ref a_1), .val (.ref a_2), .val (.ref a_3), .val (.int 1), .val (.ref a_5), .val (.int 1), .unset, .unset] [])
  refine own_go (fun _ k => XS.iinc X30.here hx rfl (hb hby own_d16_55) rfl (l' := #[.val (.ref a_1), .val (.ref a_2), .val (.ref a_3), .val (.int 1), .val (.ref a_5), .val (.int 2), .unset, .unset]) rfl (XS.goto X30.here hx rfl (pc0 := 58) (pc' := 31) rfl (hb hby own_d16_58) (by decide) (by decide) (XS.iload X30.here hx rfl (hb hby own_d16_31) rfl (XS.aloadN X30.here hx rfl (hb hby own_d16_33) rfl rfl k)))) ?_
  show own_Go _ _ _ _ T30 (mkF m 34 #[.val (.ref a_1), .val (.ref a_2), .val (.ref a_3), .val (.int 1), .val (.ref a_5), .val (.int 2), .unset, .unset] [(.ref a_1), (.int 2)])
  have f32 := (f23.other W30 (Or.inl (own_ne (by omega))))
  obtain ⟨T33, X33, e33, st33⟩ := getF X30 hx hZ hown (host := "") (Or.inl (own_w23 hw)) Via.refl e30 f32 (g := (mkF m 34 #[.val (.ref a_1), .val (.ref a_2), .val (.ref a_3), .val (.int 1), .val (.ref a_5), .val (.int 2), .unset, .unset] [(.ref a_1), (.int 2)])) rfl rfl (hb hby own_d16_34)
  refine own_go (fun _ k => st33 _ k) ?_
  show own_Go _ _ _ _ T33 (mkF m 37 #[.val (.ref a_1), .val (.ref a_2), .val (.ref a_3), .val (.int 1), .val (.ref a_5), .val (.int 2), .unset, .unset] [(.int 3), (.int 2)])
  have hc34 : (2 : Int32) < (3 : Int32) := by decide
  refine own_go (fun _ k => XS.icmpNo X33.here hx rfl (hb hby own_d16_37) rfl (Jvm.Free.XT.ii_ge_f hc34) (XS.aload X33.here hx rfl (hb hby own_d16_40) rfl rfl (XS.iload X33.here hx rfl (hb hby own_d16_42) rfl (XS.iconst X33.here hx rfl (hb hby own_d16_44) k)))) ?_
  show own_Go _ _ _ _ T33 (mkF m 45 #[.val (.ref a_1), .val (.ref a_2), .val (.ref a_3), .val (.int 1), .val (.ref a_5), .val (.int 2), .unset, .unset] [(.int 1), (.int 2), (.ref a_5)])
  refine own_go (fun _ k => XS.iadd X33.here hx rfl (hb hby own_d16_45) rfl k) ?_
  have sd35 : ∀ target, Steps p.tables e below (T33.setTop (mkF m 47 #[.val (.ref a_1), .val (.ref a_2), .val (.ref a_3), .val (.int 1), .val (.ref a_5), .val (.int 2), .unset, .unset] [(.int 3), (.ref a_5), (.int 3), (.ref a_5)])) target → Steps p.tables e below (T33.setTop (mkF m 46 #[.val (.ref a_1), .val (.ref a_2), .val (.ref a_3), .val (.int 1), .val (.ref a_5), .val (.int 2), .unset, .unset] [(.int 3), (.ref a_5)])) target := fun target kk => by
    jvm_step X33.here [X33.here.top, hx, (hb hby own_d16_46), Value.category]
    exact kk
  refine own_go (fun _ k => sd35 _ k) ?_
  show own_Go _ _ _ _ T33 (mkF m 47 #[.val (.ref a_1), .val (.ref a_2), .val (.ref a_3), .val (.int 1), .val (.ref a_5), .val (.int 2), .unset, .unset] [(.int 3), (.ref a_5), (.int 3), (.ref a_5)])
  obtain ⟨q36, c36, R36, s36, t36⟩ := id V30
  have hin36 : ¬ ((3 : Int32) < 0 ∨ c36.slots.size ≤ ((3 : Int32)).toNatClampNeg) := inb_of s36 ⟨by decide, by decide⟩
  have u36 : c36.slots[((3 : Int32)).toNatClampNeg]? = some (.int 0) := own_at (k := 3) t36 s36 hin36 (by decide) (rfl)
  refine own_go (fun _ k => X33.iaload hx (j := (3 : Int32)) (v := (.int 0)) (by rw [e33]; exact R36.1) (State.isArrayOf_alike hZ.alike R36.2.1) R36.2.2 hin36 u36 (g := (mkF m 47 #[.val (.ref a_1), .val (.ref a_2), .val (.ref a_3), .val (.int 1), .val (.ref a_5), .val (.int 2), .unset, .unset] [(.int 3), (.ref a_5), (.int 3), (.ref a_5)])) rfl rfl (hb hby own_d16_47) _ k) ?_
  show own_Go _ _ _ _ T33 (mkF m 48 #[.val (.ref a_1), .val (.ref a_2), .val (.ref a_3), .val (.int 1), .val (.ref a_5), .val (.int 2), .unset, .unset] [(.int 0), (.int 3), (.ref a_5)])
  refine own_go (fun _ k => XS.aload X33.here hx rfl (hb hby own_d16_48) rfl rfl (XS.iload X33.here hx rfl (hb hby own_d16_50) rfl k)) ?_
  obtain ⟨q37, c37, R37, s37, t37⟩ := id V30
  have hin37 : ¬ ((2 : Int32) < 0 ∨ c37.slots.size ≤ ((2 : Int32)).toNatClampNeg) := inb_of s37 ⟨by decide, by decide⟩
  have u37 : c37.slots[((2 : Int32)).toNatClampNeg]? = some (.int 1) := own_at (k := 2) t37 s37 hin37 (by decide) (rfl)
  refine own_go (fun _ k => X33.iaload hx (j := (2 : Int32)) (v := (.int 1)) (by rw [e33]; exact R37.1) (State.isArrayOf_alike hZ.alike R37.2.1) R37.2.2 hin37 u37 (g := (mkF m 52 #[.val (.ref a_1), .val (.ref a_2), .val (.ref a_3), .val (.int 1), .val (.ref a_5), .val (.int 2), .unset, .unset] [(.int 2), (.ref a_5), (.int 0), (.int 3), (.ref a_5)])) rfl rfl (hb hby own_d16_52) _ k) ?_
  show own_Go _ _ _ _ T33 (mkF m 53 #[.val (.ref a_1), .val (.ref a_2), .val (.ref a_3), .val (.int 1), .val (.ref a_5), .val (.int 2), .unset, .unset] [(.int 1), (.int 0), (.int 3), (.ref a_5)])
  refine own_go (fun _ k => XS.iadd X33.here hx rfl (hb hby own_d16_53) rfl k) ?_
  obtain ⟨q38, c38, R38, s38, t38⟩ := id V30
  have hin38 : ¬ ((3 : Int32) < 0 ∨ c38.slots.size ≤ ((3 : Int32)).toNatClampNeg) := inb_of s38 ⟨by decide, by decide⟩
  obtain ⟨T39, h39, X39, e39, W39, st39⟩ := stI X33 hx hZ e33 R38 (j := (3 : Int32)) hin38 (g := (mkF m 54 #[.val (.ref a_1), .val (.ref a_2), .val (.ref a_3), .val (.int 1), .val (.ref a_5), .val (.int 2), .unset, .unset] [(.int 1), (.int 3), (.ref a_5)])) rfl rfl (hb hby own_d16_54)
  have V39 : own_AV Z h39 a_5 .int 4 (own_upd (own_upd (own_upd (own_upd (fun _ => (.int 0)) 1 (.int 1)) 1 (.int 1)) 2 (.int 1)) 3 (.int 1)) := own_AV.set (k := 3) V30 W39 (by decide)
  have z40 := W39.size
  have K39 : Keep h0 h39 [a_5] := K30.wr W39 (Or.inl (List.mem_of_getElem? (i := 0) rfl))
  have N39 := Fr.snoc X39 N30 (by omega : n0 ≤ a_5)
  refine own_go (fun _ k => st39 _ k) ?_
  show own_Go _ _ _ _ T39 (mkF m 55 #[.val (.ref a_1), .val (.ref a_2), .val (.ref a_3), .val (.int 1), .val (.ref a_5), .val (.int 2), .unset, .unset] [])
  refine own_go (fun _ k => XS.iinc X39.here hx rfl (hb hby own_d16_55) rfl (l' := #[.val (.ref a_1), .val (.ref a_2), .val (.ref a_3), .val (.int 1), .val (.ref a_5), .val (.int 3), .unset, .unset]) rfl (XS.goto X39.here hx rfl (pc0 := 58) (pc' := 31) rfl (hb hby own_d16_58) (by decide) (by decide) (XS.iload X39.here hx rfl (hb hby own_d16_31) rfl (XS.aloadN X39.here hx rfl (hb hby own_d16_33) rfl rfl k)))) ?_
  show own_Go _ _ _ _ T39 (mkF m 34 #[.val (.ref a_1), .val (.ref a_2), .val (.ref a_3), .val (.int 1), .val (.ref a_5), .val (.int 3), .unset, .unset] [(.ref a_1), (.int 3)])
  have f41 := (f32.other W39 (Or.inl (own_ne (by omega))))
  obtain ⟨T42, X42, e42, st42⟩ := getF X39 hx hZ hown (host := "") (Or.inl (own_w23 hw)) Via.refl e39 f41 (g := (mkF m 34 #[.val (.ref a_1), .val (.ref a_2), .val (.ref a_3), .val (.int 1), .val (.ref a_5), .val (.int 3), .unset, .unset] [(.ref a_1), (.int 3)])) rfl rfl (hb hby own_d16_34)
  refine own_go (fun _ k => st42 _ k) ?_
  show own_Go _ _ _ _ T42 (mkF m 37 #[.val (.ref a_1), .val (.ref a_2), .val (.ref a_3), .val (.int 1), .val (.ref a_5), .val (.int 3), .unset, .unset] [(.int 3), (.int 3)])
  have hc43 : ¬ ((3 : Int32) < (3 : Int32)) := by decide
  refine own_go (fun _ k => XS.icmpYes X42.here hx rfl (pc0 := 37) (pc' := 61) rfl (hb hby own_d16_37) rfl (Jvm.Free.XT.ii_ge_t hc43) (by decide) (by decide) (XS.aload X42.here hx rfl (hb hby own_d16_61) rfl rfl (XS.aloadN X42.here hx rfl (hb hby own_d16_63) rfl rfl k))) ?_
  obtain ⟨T44, X44, e44, st44⟩ := getF X42 hx hZ hown (host := "") (Or.inl (own_w23 hw)) Via.refl e42 f41 (g := (mkF m 64 #[.val (.ref a_1), .val (.ref a_2), .val (.ref a_3), .val (.int 1), .val (.ref a_5), .val (.int 3), .unset, .unset] [(.ref a_1), (.ref a_5)])) rfl rfl (hb hby own_d16_64)
  refine own_go (fun _ k => st44 _ k) ?_
  show own_Go _ _ _ _ T44 (mkF m 67 #[.val (.ref a_1), .val (.ref a_2), .val (.ref a_3), .val (.int 1), .val (.ref a_5), .val (.int 3), .unset, .unset] [(.int 3), (.ref a_5)])
  obtain ⟨_, _, ⟨T45, L45, k45, n45⟩, -, X45, ⟨Lc45, hQ45, l45, y45, z45⟩, st45⟩ := Jvm.LawKit.callS X44 hx (y := (⟨"java/util/Arrays", "copyOf", "([II)[I"⟩ : MethodName)) hown (mvT hZ (hw _ (List.mem_of_getElem? (i := 96) rfl))) (mvT hZ (hw _ (List.mem_of_getElem? (i := 97) rfl))) (mvT hZ (own_w72 hw)) (mvT hZ (hw _ (List.mem_of_getElem? (i := 98) rfl))) (by decide) (backOf (W := 0) (own_rm17_s1 l Z a0 hw [] a_5  h39 n0 (by omega) V39) hZ (hw _ (List.mem_of_getElem? (i := 98) rfl)) (own_w72 hw) (by decide) (by decide)) (g := (mkF m 67 #[.val (.ref a_1), .val (.ref a_2), .val (.ref a_3), .val (.int 1), .val (.ref a_5), .val (.int 3), .unset, .unset] [(.int 3), (.ref a_5)])) rfl (by rw [hml]; rfl) (argsL := [(.ref a_5), (.int 3)]) (rest := []) (lenOf own_pd10 rfl) rfl (by show 2 * 0 + _ ≤ _; exact Nat.le_of_eq rfl) (hb hby own_d16_67) (fun _ _ => ⟨rfl, e44, (by decide : 0 + 1 ≤ _), (by decide : 0 + 3 ≤ _)⟩)
  dsimp only [Pt.U, Pt.locs, Pt.cells, Pt.slots] at X45 l45 y45 z45 st45 hQ45
  have y45 : k45 = 1 := y45
  have z45 : n45 = 3 := z45
  obtain ⟨x_46, rfl, N45q, K45q, f47, f48⟩ := hQ45
  have N45 : Fr n0 L45 := by rw [l45]; exact Fr.app N39 N45q
  have z49 := K45q.1
  have K45 : Keep h0 T45.heap [a_5] := K39.trans K45q all0
  have z50 := own_lt f47.lt
  refine own_go (fun _ k => st45 _ k) ?_
  show own_Go _ _ _ _ T45 (mkF m 70 #[.val (.ref a_1), .val (.ref a_2), .val (.ref a_3), .val (.int 1), .val (.ref a_5), .val (.int 3), .unset, .unset] [(.ref x_46)])
  refine own_go (fun _ k => XS.astore X45.here hx rfl (hb hby own_d16_70) rfl rfl (l' := #[.val (.ref a_1), .val (.ref a_2), .val (.ref a_3), .val (.int 1), .val (.ref a_5), .val (.ref x_46), .unset, .unset]) rfl (XS.iloadN X45.here hx rfl (hb hby own_d16_72) rfl k)) ?_
  obtain ⟨T51, h51, k51, X51, e51, E51, A51, st51⟩ := newP X45 hx hZ (hw _ (List.mem_of_getElem? (i := 9) rfl)) rfl (g := (mkF m 73 #[.val (.ref a_1), .val (.ref a_2), .val (.ref a_3), .val (.int 1), .val (.ref a_5), .val (.ref x_46), .unset, .unset] [(.int 1)])) rfl (hb hby own_d16_73) rfl (by decide) (cap := 1) (by decide) (by decide) (by rw [y45]; decide) (by rw [z45]; decide)
  obtain ⟨b51, g51⟩ : ∃ z, z = T45.heap.size := ⟨_, rfl⟩
  rw [← g51] at A51 st51
  have z52 := E51.1
  have lt_b51 := own_lt A51.lt
  have K51 : Keep h0 h51 [a_5] := K45.ext E51
  have V_b51 : own_AV Z h51 b51 .int 1 (fun _ => (.int 0)) := own_AV.new A51 (by decide)
  refine own_go (fun _ k => st51 _ k) ?_
  show own_Go _ _ _ _ T51 (mkF m 75 #[.val (.ref a_1), .val (.ref a_2), .val (.ref a_3), .val (.int 1), .val (.ref a_5), .val (.ref x_46), .unset, .unset] [(.ref b51)])
  refine own_go (fun _ k => XS.astore X51.here hx rfl (hb hby own_d16_75) rfl rfl (l' := #[.val (.ref a_1), .val (.ref a_2), .val (.ref a_3), .val (.int 1), .val (.ref a_5), .val (.ref x_46), .val (.ref b51), .unset]) rfl (XS.iconst X51.here hx rfl (hb hby own_d16_77) (XS.istore X51.here hx rfl (hb hby own_d16_78) rfl (l' := #[.val (.ref a_1), .val (.ref a_2), .val (.ref a_3), .val (.int 1), .val (.ref a_5), .val (.ref x_46), .val (.ref b51), .val (.int 0)]) rfl (XS.iload X51.here hx rfl (hb hby own_d16_80) rfl k)))) ?_
  show own_Go _ _ _ _ T51 (mkF m 82 #[.val (.ref a_1), .val (.ref a_2), .val (.ref a_3), .val (.int 1), .val (.ref a_5), .val (.ref x_46), .val (.ref b51), .val (.int 0)] [(.int 0)])
  refine own_go (fun _ k => XS.iloadN X51.here hx rfl (hb hby own_d16_82) rfl k) ?_
  have hc53 : (0 : Int32) < (1 : Int32) := by decide
  refine own_go (fun _ k => XS.icmpNo X51.here hx rfl (hb hby own_d16_83) rfl (Jvm.Free.XT.ii_ge_f hc53) (XS.aload X51.here hx rfl (hb hby own_d16_86) rfl rfl (XS.aload X51.here hx rfl (hb hby own_d16_88) rfl rfl (XS.aloadN X51.here hx rfl (hb hby own_d16_90) rfl rfl k)))) ?_
  show own_Go _ _ _ _ T51 (mkF m 91 #[.val (.ref a_1), .val (.ref a_2), .val (.ref a_3), .val (.int 1), .val (.ref a_5), .val (.ref x_46), .val (.ref b51), .val (.int 0)] [(.ref a_2), (.ref x_46), (.ref b51)])
  refine own_go (fun _ k => XS.iload X51.here hx rfl (hb hby own_d16_91) rfl k) ?_
  have f54 := ((((((pr_A_a_2.other W11 (own_ne (by omega))).other W21 (own_ne (by omega))).other W30 (own_ne (by omega))).other W39 (own_ne (by omega))).keep K45q nin0).ext E51)
  obtain ⟨q55, c55, R55, s55, t55⟩ := id f54
  have hin55 : ¬ ((0 : Int32) < 0 ∨ c55.slots.size ≤ ((0 : Int32)).toNatClampNeg) := inb_of s55 ⟨by decide, by decide⟩
  have u55 : c55.slots[((0 : Int32)).toNatClampNeg]? = some (.int 0) := own_at (k := 0) t55 s55 hin55 (by decide) (rfl)
  refine own_go (fun _ k => X51.iaload hx (j := (0 : Int32)) (v := (.int 0)) (by rw [e51]; exact R55.1) (State.isArrayOf_alike hZ.alike R55.2.1) R55.2.2 hin55 u55 (g := (mkF m 93 #[.val (.ref a_1), .val (.ref a_2), .val (.ref a_3), .val (.int 1), .val (.ref a_5), .val (.ref x_46), .val (.ref b51), .val (.int 0)] [(.int 0), (.ref a_2), (.ref x_46), (.ref b51)])) rfl rfl (hb hby own_d16_93) _ k) ?_
  show own_Go _ _ _ _ T51 (mkF m 94 #[.val (.ref a_1), .val (.ref a_2), .val (.ref a_3), .val (.int 1), .val (.ref a_5), .val (.ref x_46), .val (.ref b51), .val (.int 0)] [(.int 0), (.ref x_46), (.ref b51)])
  have f56 := (f47.ext E51)
  obtain ⟨q57, c57, R57, s57, t57⟩ := id f56
  have hin57 : ¬ ((0 : Int32) < 0 ∨ c57.slots.size ≤ ((0 : Int32)).toNatClampNeg) := inb_of s57 ⟨by decide, by decide⟩
  have u57 : c57.slots[((0 : Int32)).toNatClampNeg]? = some (.int 0) := own_at (k := 0) t57 s57 hin57 (by decide) (rfl)
  refine own_go (fun _ k => X51.iaload hx (j := (0 : Int32)) (v := (.int 0)) (by rw [e51]; exact R57.1) (State.isArrayOf_alike hZ.alike R57.2.1) R57.2.2 hin57 u57 (g := (mkF m 94 #[.val (.ref a_1), .val (.ref a_2), .val (.ref a_3), .val (.int 1), .val (.ref a_5), .val (.ref x_46), .val (.ref b51), .val (.int 0)] [(.int 0), (.ref x_46), (.ref b51)])) rfl rfl (hb hby own_d16_94) _ k) ?_
  show own_Go _ _ _ _ T51 (mkF m 95 #[.val (.ref a_1), .val (.ref a_2), .val (.ref a_3), .val (.int 1), .val (.ref a_5), .val (.ref x_46), .val (.ref b51), .val (.int 0)] [(.int 0), (.ref b51)])
  refine own_go (fun _ k => XS.aloadN X51.here hx rfl (hb hby own_d16_95) rfl rfl (XS.iload X51.here hx rfl (hb hby own_d16_96) rfl k)) ?_
  have f58 := ((((((pr_A_a_3.other W11 (own_ne (by omega))).other W21 (own_ne (by omega))).other W30 (own_ne (by omega))).other W39 (own_ne (by omega))).keep K45q nin0).ext E51)
  obtain ⟨q59, c59, R59, s59, t59⟩ := id f58
  have hin59 : ¬ ((0 : Int32) < 0 ∨ c59.slots.size ≤ ((0 : Int32)).toNatClampNeg) := inb_of s59 ⟨by decide, by decide⟩
  have u59 : c59.slots[((0 : Int32)).toNatClampNeg]? = some (.int 0) := own_at (k := 0) t59 s59 hin59 (by decide) (rfl)
  refine own_go (fun _ k => X51.iaload hx (j := (0 : Int32)) (v := (.int 0)) (by rw [e51]; exact R59.1) (State.isArrayOf_alike hZ.alike R59.2.1) R59.2.2 hin59 u59 (g := (mkF m 98 #[.val (.ref a_1), .val (.ref a_2), .val (.ref a_3), .val (.int 1), .val (.ref a_5), .val (.ref x_46), .val (.ref b51), .val (.int 0)] [(.int 0), (.ref a_3), (.int 0), (.ref b51)])) rfl rfl (hb hby own_d16_98) _ k) ?_
  show own_Go _ _ _ _ T51 (mkF m 99 #[.val (.ref a_1), .val (.ref a_2), .val (.ref a_3), .val (.int 1), .val (.ref a_5), .val (.ref x_46), .val (.ref b51), .val (.int 0)] [(.int 0), (.int 0), (.ref b51)])
  obtain ⟨q60, c60, R60, s60, t60⟩ := id V_b51
  have hin60 : ¬ ((0 : Int32) < 0 ∨ c60.slots.size ≤ ((0 : Int32)).toNatClampNeg) := inb_of s60 ⟨by decide, by decide⟩
  obtain ⟨T61, h61, X61, e61, W61, st61⟩ := stI X51 hx hZ e51 R60 (j := (0 : Int32)) hin60 (g := (mkF m 99 #[.val (.ref a_1), .val (.ref a_2), .val (.ref a_3), .val (.int 1), .val (.ref a_5), .val (.ref x_46), .val (.ref b51), .val (.int 0)] [(.int 0), (.int 0), (.ref b51)])) rfl rfl (hb hby own_d16_99)
  have V61 : own_AV Z h61 b51 .int 1 (own_upd (fun _ => (.int 0)) 0 (.int 0)) := own_AV.set (k := 0) V_b51 W61 (by decide)
  have z62 := W61.size
  have K61 : Keep h0 h61 [a_5] := K51.wr W61 (Or.inr (by omega))
  have N61 := Fr.snoc X61 N45 (by omega : n0 ≤ b51)
  refine own_go (fun _ k => st61 _ k) ?_
  show own_Go _ _ _ _ T61 (mkF m 100 #[.val (.ref a_1), .val (.ref a_2), .val (.ref a_3), .val (.int 1), .val (.ref a_5), .val (.ref x_46), .val (.ref b51), .val (.int 0)] [])
  refine own_go (fun _ k => XS.aload X61.here hx rfl (hb hby own_d16_100) rfl rfl (XS.aloadN X61.here hx rfl (hb hby own_d16_102) rfl rfl (XS.iload X61.here hx rfl (hb hby own_d16_103) rfl k))) ?_
  have f63 := (f54.other W61 (own_ne (by omega)))
  obtain ⟨q64, c64, R64, s64, t64⟩ := id f63
  have hin64 : ¬ ((0 : Int32) < 0 ∨ c64.slots.size ≤ ((0 : Int32)).toNatClampNeg) := inb_of s64 ⟨by decide, by decide⟩
  have u64 : c64.slots[((0 : Int32)).toNatClampNeg]? = some (.int 0) := own_at (k := 0) t64 s64 hin64 (by decide) (rfl)
  refine own_go (fun _ k => X61.iaload hx (j := (0 : Int32)) (v := (.int 0)) (by rw [e61]; exact R64.1) (State.isArrayOf_alike hZ.alike R64.2.1) R64.2.2 hin64 u64 (g := (mkF m 105 #[.val (.ref a_1), .val (.ref a_2), .val (.ref a_3), .val (.int 1), .val (.ref a_5), .val (.ref x_46), .val (.ref b51), .val (.int 0)] [(.int 0), (.ref a_2), (.ref x_46)])) rfl rfl (hb hby own_d16_105) _ k) ?_
  show own_Go _ _ _ _ T61 (mkF m 106 #[.val (.ref a_1), .val (.ref a_2), .val (.ref a_3), .val (.int 1), .val (.ref a_5), .val (.ref x_46), .val (.ref b51), .val (.int 0)] [(.int 0), (.ref x_46)])
  have sd65 : ∀ target, Steps p.tables e below (T61.setTop (mkF m 107 #[.val (.ref a_1), .val (.ref a_2), .val (.ref a_3), .val (.int 1), .val (.ref a_5), .val (.ref x_46), .val (.ref b51), .val (.int 0)] [(.int 0), (.ref x_46), (.int 0), (.ref x_46)])) target → Steps p.tables e below (T61.setTop (mkF m 106 #[.val (.ref a_1), .val (.ref a_2), .val (.ref a_3), .val (.int 1), .val (.ref a_5), .val (.ref x_46), .val (.ref b51), .val (.int 0)] [(.int 0), (.ref x_46)])) target := fun target kk => by
    jvm_step X61.here [X61.here.top, hx, (hb hby own_d16_106), Value.category]
    exact kk
  refine own_go (fun _ k => sd65 _ k) ?_
  show own_Go _ _ _ _ T61 (mkF m 107 #[.val (.ref a_1), .val (.ref a_2), .val (.ref a_3), .val (.int 1), .val (.ref a_5), .val (.ref x_46), .val (.ref b51), .val (.int 0)] [(.int 0), (.ref x_46), (.int 0), (.ref x_46)])
  have f66 := (f56.other W61 (own_ne (by omega)))
  obtain ⟨q67, c67, R67, s67, t67⟩ := id f66
  have hin67 : ¬ ((0 : Int32) < 0 ∨ c67.slots.size ≤ ((0 : Int32)).toNatClampNeg) := inb_of s67 ⟨by decide, by decide⟩
  have u67 : c67.slots[((0 : Int32)).toNatClampNeg]? = some (.int 0) := own_at (k := 0) t67 s67 hin67 (by decide) (rfl)
  refine own_go (fun _ k => X61.iaload hx (j := (0 : Int32)) (v := (.int 0)) (by rw [e61]; exact R67.1) (State.isArrayOf_alike hZ.alike R67.2.1) R67.2.2 hin67 u67 (g := (mkF m 107 #[.val (.ref a_1), .val (.ref a_2), .val (.ref a_3), .val (.int 1), .val (.ref a_5), .val (.ref x_46), .val (.ref b51), .val (.int 0)] [(.int 0), (.ref x_46), (.int 0), (.ref x_46)])) rfl rfl (hb hby own_d16_107) _ k) ?_
  show own_Go _ _ _ _ T61 (mkF m 108 #[.val (.ref a_1), .val (.ref a_2), .val (.ref a_3), .val (.int 1), .val (.ref a_5), .val (.ref x_46), .val (.ref b51), .val (.int 0)] [(.int 0), (.int 0), (.ref x_46)])
  refine own_go (fun _ k => XS.iconst X61.here hx rfl (hb hby own_d16_108) (XS.iadd X61.here hx rfl (hb hby own_d16_109) rfl k)) ?_
  obtain ⟨q68, c68, R68, s68, t68⟩ := id f66
  have hin68 : ¬ ((0 : Int32) < 0 ∨ c68.slots.size ≤ ((0 : Int32)).toNatClampNeg) := inb_of s68 ⟨by decide, by decide⟩
  obtain ⟨T69, h69, X69, e69, W69, st69⟩ := stI X61 hx hZ e61 R68 (j := (0 : Int32)) hin68 (g := (mkF m 110 #[.val (.ref a_1), .val (.ref a_2), .val (.ref a_3), .val (.int 1), .val (.ref a_5), .val (.ref x_46), .val (.ref b51), .val (.int 0)] [(.int 1), (.int 0), (.ref x_46)])) rfl rfl (hb hby own_d16_110)
  have V69 : own_AV Z h69 x_46 .int 3 (own_upd (own_upd (own_upd (own_upd (fun _ => (.int 0)) 0 (.int 0)) 1 (.int 1)) 2 (.int 1)) 0 (.int 1)) := own_AV.set (k := 0) f66 W69 (by decide)
  have z70 := W69.size
  have K69 : Keep h0 h69 [a_5] := K61.wr W69 (Or.inr (by omega))
  have N69 := Fr.snoc X69 N61 (by omega : n0 ≤ x_46)
  refine own_go (fun _ k => st69 _ k) ?_
  show own_Go _ _ _ _ T69 (mkF m 111 #[.val (.ref a_1), .val (.ref a_2), .val (.ref a_3), .val (.int 1), .val (.ref a_5), .val (.ref x_46), .val (.ref b51), .val (.int 0)] [])
  refine own_go (fun _ k => XS.iinc X69.here hx rfl (hb hby own_d16_111) rfl (l' := #[.val (.ref a_1), .val (.ref a_2), .val (.ref a_3), .val (.int 1), .val (.ref a_5), .val (.ref x_46), .val (.ref b51), .val (.int 1)]) rfl (XS.goto X69.here hx rfl (pc0 := 114) (pc' := 80) rfl (hb hby own_d16_114) (by decide) (by decide) (XS.iload X69.here hx rfl (hb hby own_d16_80) rfl (XS.iloadN X69.here hx rfl (hb hby own_d16_82) rfl k)))) ?_
  show own_Go _ _ _ _ T69 (mkF m 83 #[.val (.ref a_1), .val (.ref a_2), .val (.ref a_3), .val (.int 1), .val (.ref a_5), .val (.ref x_46), .val (.ref b51), .val (.int 1)] [(.int 1), (.int 1)])
  have hc71 : ¬ ((1 : Int32) < (1 : Int32)) := by decide
  refine own_go (fun _ k => XS.icmpYes X69.here hx rfl (pc0 := 83) (pc' := 117) rfl (hb hby own_d16_83) rfl (Jvm.Free.XT.ii_ge_t hc71) (by decide) (by decide) (XS.aload X69.here hx rfl (hb hby own_d16_117) rfl rfl k)) ?_
  show own_Go _ _ _ _ T69 (mkF m 119 #[.val (.ref a_1), .val (.ref a_2), .val (.ref a_3), .val (.int 1), .val (.ref a_5), .val (.ref x_46), .val (.ref b51), .val (.int 1)] [(.ref b51)])
  obtain ⟨fs, hr, hrun, hended, hW, hsame⟩ := X69.leave (v := some (.ref b51)) (fun h => by rw [Bd.returns] at h; cases h)
  refine ⟨_, _, retOut X69 hx Bd.returns rfl (Or.inr (Or.inr (Or.inr (Or.inr ⟨rfl, rfl, rfl⟩)))) (hb hby own_d16_119) hr, hrun, hended, _, _, rfl, ?_, ⟨_, rfl⟩, hW, hsame.mono (by rw [y45]; decide) (by rw [z45]; decide)⟩
  show own_Q16_s1 Z a_1 a_2 a_3 a_5 h0 n0 _ T69.heap _
  rw [e69]
  have f73 := ((((V39.keep K45q nin0).ext E51).other W61 (own_ne (by omega))).other W69 (own_ne (by omega)))
  have f74 := (V61.other W69 (own_ne (by omega)))
  exact ⟨b51, rfl, N69, K69, f73, f74, (by omega)⟩
theorem own_ef_own_rm17_s2 (m : MethodId) (x0 : Addr) : entryFrame m #[(.ref x0), (.int 3)] 3 = mkF m 0 #[.val (.ref x0), .val (.int 3), .unset] [] := by first | (simp [entryFrame, mkF, argsToLocals, Value.category]; done) | rfl
def own_Q17_s2 (Z : State) (a_1 : Addr) (h0 : Heap) (n0 : Nat) (v : Option Value) (h : Heap) (L : List Loc) : Prop := ∃ (x_0 : Addr), v = some (.ref x_0) ∧ Fr n0 L ∧ Keep h0 h [] ∧ own_AV Z h x_0 .int 3 (own_upd (own_upd (own_upd (fun _ => (.int 0)) 0 (.int 0)) 1 (.int 0)) 2 (.int 1)) ∧ (h0.size ≤ x_0)
set_option maxRecDepth 65536 in
set_option maxHeartbeats 40000000 in
theorem own_rm17_s2 (l : Launch) (Z : State) (a0 : Array Value) (hw : ∀ d ∈ tables_1, d.before a0 Z = true) (ws : List Jvm.Cond) (a_1 : Addr) (h0 : Heap) (n0 : Nat) (Z0 : n0 ≤ h0.size) (pr_A_a_1 : own_AV Z h0 a_1 .int 4 (own_upd (own_upd (own_upd (own_upd (fun _ => (.int 0)) 2 (.int 1)) 1 (.int 0)) 2 (.int 1)) 3 (.int 1))) :
    MetFree l (⟨"java/util/Arrays", "copyOf", "([II)[I"⟩ : MethodName) (head1 (Jvm.Cond.code (⟨"java/util/Arrays", "copyOf", "([II)[I"⟩ : MethodName) jdk_65_method_123_code 3 (some (.array .int)) :: ws) ({ frames := 1, cells := 1, slots := 3, locals := 40 } : Room)) (fun a U => a = #[(.ref a_1), (.int 3)] ∧ Z.Warmed39 U.vm ∧ U.heap = h0) (fun _ _ _ _ _ => True) (fun _ U o U' => ∃ v L, o = .returned v ∧ own_Q17_s2 Z a_1 h0 n0 v U'.heap L ∧ FrameEnd U o U' L ({ frames := 1, cells := 1, slots := 3, locals := 40 } : Room).cells ({ frames := 1, cells := 1, slots := 3, locals := 40 } : Room).slots) := by
  refine MetFree.of_bodySF (plainFor_of_name own_pn1) hisR ?_
  intro p e s m args below meth c s₁ Bd hml0 hP hK
  obtain ⟨rfl, hZ, hh⟩ := hP
  have hx := Bd.exec
  have hby := Bd.bytes
  have hml : c.maxLocals = 3 := hml0
  have hown : s.vm.findClass "java/util/Arrays" = some m.cls := findClass_of_methodNamed Bd.named
  have hnm := (name_of_methodNamed Bd.named Bd.method).1
  have X0 : Stand p l e ({ frames := 1, cells := 1, slots := 3, locals := 40 } : Room) s m #[(.ref a_1), (.int 3)] below meth c s₁ [] 0 0 := Stand.of_body Bd
  have e0 : s₁.heap = h0 := by rw [← hh, Bd.state]; rfl
  have N0 := Fr.nil n0
  have z0 : n0 ≤ h0.size := Z0
  have z1 := own_lt pr_A_a_1.lt
  have K0 : Keep h0 h0 [] := Keep.refl h0 _
  show own_Go p.tables e below (fun t o => t.status = .running ∧ Ended t below o ∧ ∃ v L, o = .returned v ∧ own_Q17_s2 Z a_1 h0 n0 v t.heap L ∧ FrameEnd s o t L ({ frames := 1, cells := 1, slots := 3, locals := 40 } : Room).cells ({ frames := 1, cells := 1, slots := 3, locals := 40 } : Room).slots) s₁ (entryFrame m #[(.ref a_1), (.int 3)] 3)
  rw [own_ef_own_rm17_s2 m a_1]
  show own_Go _ _ _ _ s₁ (mkF m 0 #[.val (.ref a_1), .val (.int 3), .unset] [])
  refine own_go (fun _ k => XS.iloadN X0.here hx rfl (hb hby own_d17_0) rfl (XS.aloadN X0.here hx rfl (hb hby own_d17_1) rfl rfl k)) ?_
  obtain ⟨q2, c2, R2, s2, t2⟩ := id pr_A_a_1
  refine own_go (fun _ k => X0.arraylength hx (by rw [e0]; exact R2.1) (State.isArrayOf_alike hZ.alike R2.2.1) (g := (mkF m 2 #[.val (.ref a_1), .val (.int 3), .unset] [(.ref a_1), (.int 3)])) rfl rfl (hb hby own_d17_2) _ k) ?_
  rw [len_of s2 q2]
  show own_Go _ _ _ _ s₁ (mkF m 3 #[.val (.ref a_1), .val (.int 3), .unset] [(.int 4), (.int 3)])
  have hc3 : ¬ ((3 : Int32) = (4 : Int32)) := by decide
  refine own_go (fun _ k => XS.icmpYes X0.here hx rfl (pc0 := 3) (pc' := 14) rfl (hb hby own_d17_3) rfl (Jvm.Free.XT.ii_ne_t hc3) (by decide) (by decide) (XS.iloadN X0.here hx rfl (hb hby own_d17_14) rfl k)) ?_
  obtain ⟨T4, h4, k4, X4, e4, E4, A4, st4⟩ := newP X0 hx hZ (hw _ (List.mem_of_getElem? (i := 9) rfl)) e0 (g := (mkF m 15 #[.val (.ref a_1), .val (.int 3), .unset] [(.int 3)])) rfl (hb hby own_d17_15) rfl (by decide) (cap := 3) (by decide) (by decide) (by decide) (by decide)
  obtain ⟨b4, g4⟩ : ∃ z, z = h0.size := ⟨_, rfl⟩
  rw [← g4] at A4 st4
  have z5 := E4.1
  have lt_b4 := own_lt A4.lt
  have K4 : Keep h0 h4 [] := K0.ext E4
  have V_b4 : own_AV Z h4 b4 .int 3 (fun _ => (.int 0)) := own_AV.new A4 (by decide)
  refine own_go (fun _ k => st4 _ k) ?_
  show own_Go _ _ _ _ T4 (mkF m 17 #[.val (.ref a_1), .val (.int 3), .unset] [(.ref b4)])
  refine own_go (fun _ k => XS.astoreN X4.here hx rfl (hb hby own_d17_17) rfl rfl (l' := #[.val (.ref a_1), .val (.int 3), .val (.ref b4)]) rfl (XS.aloadN X4.here hx rfl (hb hby own_d17_18) rfl rfl (XS.iconst X4.here hx rfl (hb hby own_d17_19) (XS.aloadN X4.here hx rfl (hb hby own_d17_20) rfl rfl k)))) ?_
  show own_Go _ _ _ _ T4 (mkF m 21 #[.val (.ref a_1), .val (.int 3), .val (.ref b4)] [(.ref b4), (.int 0), (.ref a_1)])
  refine own_go (fun _ k => XS.iconst X4.here hx rfl (hb hby own_d17_21) (XS.aloadN X4.here hx rfl (hb hby own_d17_22) rfl rfl k)) ?_
  have f6 := (pr_A_a_1.ext E4)
  obtain ⟨q7, c7, R7, s7, t7⟩ := id f6
  refine own_go (fun _ k => X4.arraylength hx (by rw [e4]; exact R7.1) (State.isArrayOf_alike hZ.alike R7.2.1) (g := (mkF m 23 #[.val (.ref a_1), .val (.int 3), .val (.ref b4)] [(.ref a_1), (.int 0), (.ref b4), (.int 0), (.ref a_1)])) rfl rfl (hb hby own_d17_23) _ k) ?_
  rw [len_of s7 q7]
  show own_Go _ _ _ _ T4 (mkF m 24 #[.val (.ref a_1), .val (.int 3), .val (.ref b4)] [(.int 4), (.int 0), (.ref b4), (.int 0), (.ref a_1)])
  refine own_go (fun _ k => XS.iloadN X4.here hx rfl (hb hby own_d17_24) rfl k) ?_
  obtain ⟨_, _, ⟨T8, L8, k8, n8⟩, -, X8, ⟨Lc8, hQ8, l8, y8, z8⟩, st8⟩ := Jvm.LawKit.callS X4 hx (y := (⟨"java/lang/Math", "min", "(II)I"⟩ : MethodName)) hown (mvT hZ (hw _ (List.mem_of_getElem? (i := 99) rfl))) (mvT hZ (hw _ (List.mem_of_getElem? (i := 100) rfl))) (mvT hZ (own_w101 hw)) (mvT hZ (hw _ (List.mem_of_getElem? (i := 102) rfl))) (by decide) (backOf (W := 4) (own_rm18_s1 l Z a0 hw []   h4 n0 (by omega) ) hZ (hw _ (List.mem_of_getElem? (i := 102) rfl)) (own_w101 hw) (by decide) (by decide)) (g := (mkF m 25 #[.val (.ref a_1), .val (.int 3), .val (.ref b4)] [(.int 3), (.int 4), (.int 0), (.ref b4), (.int 0), (.ref a_1)])) rfl (by rw [hml]; rfl) (argsL := [(.int 4), (.int 3)]) (rest := [(.int 0), (.ref b4), (.int 0), (.ref a_1)]) (lenOf own_pd9 rfl) rfl (by show 2 * 0 + _ ≤ _; exact Nat.le_of_eq rfl) (hb hby own_d17_25) (fun _ _ => ⟨rfl, e4, (by decide : 1 + 0 ≤ _), (by decide : 3 + 0 ≤ _)⟩)
  dsimp only [Pt.U, Pt.locs, Pt.cells, Pt.slots] at X8 l8 y8 z8 st8 hQ8
  have y8 : k8 = 1 := y8
  have z8 : n8 = 3 := z8
  obtain ⟨rfl, N8q, e8⟩ := hQ8
  have N8 : Fr n0 L8 := by rw [l8]; exact Fr.app N0 N8q
  refine own_go (fun _ k => st8 _ k) ?_
  show own_Go _ _ _ _ T8 (mkF m 28 #[.val (.ref a_1), .val (.int 3), .val (.ref b4)] [(.int 3), (.int 0), (.ref b4), (.int 0), (.ref a_1)])
  obtain ⟨T9, h9, L9, X9, e9, N9, Kq9, V9, st9⟩ := own_cp X8 hx hZ hown (hw _ (List.mem_of_getElem? (i := 103) rfl)) (hw _ (List.mem_of_getElem? (i := 51) rfl)) (hw _ (List.mem_of_getElem? (i := 49) rfl)) (hw _ (List.mem_of_getElem? (i := 50) rfl)) e8 f6 V_b4 (own_updf (own_updf (own_updf (own_updf (fun _ => rfl) rfl) rfl) rfl) rfl) (fun _ => rfl) (by decide) (by decide) (by decide) (by decide) (by decide) N8 (by omega) (g := (mkF m 28 #[.val (.ref a_1), .val (.int 3), .val (.ref b4)] [(.int 3), (.int 0), (.ref b4), (.int 0), (.ref a_1)])) rfl (by rw [hml]; rfl) rfl (hb hby own_d17_28) (by decide) (W := 0) (by show 2 * 0 + _ ≤ _; exact Nat.le_of_eq rfl) (by decide)
  have z10 := Kq9.1
  have K9 : Keep h0 h9 [] := K4.trans Kq9 (allS (Or.inr (by omega)) all0)
  have V9 : own_AV Z h9 b4 .int 3 (own_upd (own_upd (own_upd (fun _ => (.int 0)) 0 (.int 0)) 1 (.int 0)) 2 (.int 1)) := own_AV.congr V9 (fun i _ => congrFun (own_cpf3) i)
  refine own_go (fun _ k => st9 _ k) ?_
  show own_Go _ _ _ _ T9 (mkF m 31 #[.val (.ref a_1), .val (.int 3), .val (.ref b4)] [])
  refine own_go (fun _ k => XS.aloadN X9.here hx rfl (hb hby own_d17_31) rfl rfl k) ?_
  show own_Go _ _ _ _ T9 (mkF m 32 #[.val (.ref a_1), .val (.int 3), .val (.ref b4)] [(.ref b4)])
  obtain ⟨fs, hr, hrun, hended, hW, hsame⟩ := X9.leave (v := some (.ref b4)) (fun h => by rw [Bd.returns] at h; cases h)
  refine ⟨_, _, retOut X9 hx Bd.returns rfl (Or.inr (Or.inr (Or.inr (Or.inr ⟨rfl, rfl, rfl⟩)))) (hb hby own_d17_32) hr, hrun, hended, _, _, rfl, ?_, ⟨_, rfl⟩, hW, hsame.mono (by rw [y8]; decide) (by rw [z8]; decide)⟩
  show own_Q17_s2 Z a_1 h0 n0 _ T9.heap _
  rw [e9]
  exact ⟨b4, rfl, N9, K9, V9, (by omega)⟩
theorem own_ef_own_rm16_s2 (m : MethodId) (x0 : Addr) (x1 : Addr) (x2 : Addr) (x4 : Addr) : entryFrame m #[(.ref x0), (.ref x1), (.ref x2), (.int 1), (.ref x4)] 8 = mkF m 0 #[.val (.ref x0), .val (.ref x1), .val (.ref x2), .val (.int 1), .val (.ref x4), .unset, .unset, .unset] [] := by first | (simp [entryFrame, mkF, argsToLocals, Value.category]; done) | rfl
def own_Q16_s2 (Z : State) (a_1 : Addr) (a_2 : Addr) (a_3 : Addr) (a_5 : Addr) (h0 : Heap) (n0 : Nat) (v : Option Value) (h : Heap) (L : List Loc) : Prop := ∃ (x_0 : Addr), v = some (.ref x_0) ∧ Fr n0 L ∧ Keep h0 h [a_5] ∧ own_AV Z h a_5 .int 4 (own_upd (own_upd (own_upd (own_upd (fun _ => (.int 0)) 2 (.int 1)) 1 (.int 0)) 2 (.int 1)) 3 (.int 1)) ∧ own_AV Z h x_0 .int 1 (own_upd (fun _ => (.int 0)) 0 (.int 0)) ∧ (h0.size ≤ x_0)
set_option maxRecDepth 65536 in
set_option maxHeartbeats 40000000 in
theorem own_rm16_s2 (l : Launch) (Z : State) (a0 : Array Value) (hw : ∀ d ∈ tables_1, d.before a0 Z = true) (ws : List Jvm.Cond) (a_1 : Addr) (a_2 : Addr) (a_3 : Addr) (a_5 : Addr) (h0 : Heap) (n0 : Nat) (Z0 : n0 ≤ h0.size) (pr_A_a_2 : own_AV Z h0 a_2 .int 64 (own_upd (fun _ => (.int 0)) 0 (.int 1))) (pr_A_a_3 : own_AV Z h0 a_3 .int 1 (own_upd (fun _ => (.int 0)) 0 (.int 0))) (pr_A_a_5 : own_AV Z h0 a_5 .int 4 (fun _ => (.int 0))) (pr_F_a_1_variableCount : Fld Z h0 a_1 own_N1 "variableCount" "I" (.int 3)) (ho_ : own_lts [a_1, a_2, a_3, a_5]) (gw_a_5 : n0 ≤ a_5) :
    MetFree l (⟨own_N1, "groupByVariable", "([I[II[I)[I"⟩ : MethodName) (head1 (Jvm.Cond.code (⟨own_N1, "groupByVariable", "([I[II[I)[I"⟩ : MethodName) prog_6_method_18_code 8 (some (.array .int)) :: ws) ({ frames := 2, cells := 2, slots := 4, locals := 54 } : Room)) (fun a U => a = #[(.ref a_1), (.ref a_2), (.ref a_3), (.int 1), (.ref a_5)] ∧ Z.Warmed39 U.vm ∧ U.heap = h0) (fun _ _ _ _ _ => True) (fun _ U o U' => ∃ v L, o = .returned v ∧ own_Q16_s2 Z a_1 a_2 a_3 a_5 h0 n0 v U'.heap L ∧ FrameEnd U o U' L ({ frames := 2, cells := 2, slots := 4, locals := 54 } : Room).cells ({ frames := 2, cells := 2, slots := 4, locals := 54 } : Room).slots) := by
  refine MetFree.of_bodySF (plainFor_of_name own_pn0) hisR ?_
  intro p e s m args below meth c s₁ Bd hml0 hP hK
  obtain ⟨rfl, hZ, hh⟩ := hP
  have hx := Bd.exec
  have hby := Bd.bytes
  have hml : c.maxLocals = 8 := hml0
  have hown : s.vm.findClass own_N1 = some m.cls := findClass_of_methodNamed Bd.named
  have hnm := (name_of_methodNamed Bd.named Bd.method).1
  have X0 : Stand p l e ({ frames := 2, cells := 2, slots := 4, locals := 54 } : Room) s m #[(.ref a_1), (.ref a_2), (.ref a_3), (.int 1), (.ref a_5)] below meth c s₁ [] 0 0 := Stand.of_body Bd
  have e0 : s₁.heap = h0 := by rw [← hh, Bd.state]; rfl
  have N0 := Fr.nil n0
  have z0 : n0 ≤ h0.size := Z0
  have z1 := own_lt pr_A_a_2.lt
  have z2 := own_lt pr_A_a_3.lt
  have z3 := own_lt pr_A_a_5.lt
  have z4 := own_lt pr_F_a_1_variableCount.lt
  have ho5 := ho_
  simp only [own_lts, and_true] at ho5
  have K0 : Keep h0 h0 [a_5] := Keep.refl h0 _
  show own_Go p.tables e below (fun t o => t.status = .running ∧ Ended t below o ∧ ∃ v L, o = .returned v ∧ own_Q16_s2 Z a_1 a_2 a_3 a_5 h0 n0 v t.heap L ∧ FrameEnd s o t L ({ frames := 2, cells := 2, slots := 4, locals := 54 } : Room).cells ({ frames := 2, cells := 2, slots := 4, locals := 54 } : Room).slots) s₁ (entryFrame m #[(.ref a_1), (.ref a_2), (.ref a_3), (.int 1), (.ref a_5)] 8)
  rw [own_ef_own_rm16_s2 m a_1 a_2 a_3 a_5]
  show own_Go _ _ _ _ s₁ (mkF m 0 #[.val (.ref a_1), .val (.ref a_2), .val (.ref a_3), .val (.int 1), .val (.ref a_5), .unset, .unset, .unset] [])
  refine own_go (fun _ k => XS.iconst X0.here hx rfl (hb hby own_d16_0) (XS.istore X0.here hx rfl (hb hby own_d16_1) rfl (l' := #[.val (.ref a_1), .val (.ref a_2), .val (.ref a_3), .val (.int 1), .val (.ref a_5), .val (.int 0), .unset, .unset]) rfl (XS.iload X0.here hx rfl (hb hby own_d16_3) rfl (XS.iloadN X0.here hx rfl (hb hby own_d16_5) rfl k)))) ?_
  show own_Go _ _ _ _ s₁ (mkF m 6 #[.val (.ref a_1), .val (.ref a_2), .val (.ref a_3), .val (.int 1), .val (.ref a_5), .val (.int 0), .unset, .unset] [(.int 1), (.int 0)])
  have hc6 : (0 : Int32) < (1 : Int32) := by decide
  refine own_go (fun _ k => XS.icmpNo X0.here hx rfl (hb hby own_d16_6) rfl (Jvm.Free.XT.ii_ge_f hc6) (XS.aload X0.here hx rfl (hb hby own_d16_9) rfl rfl (XS.aloadN X0.here hx rfl (hb hby own_d16_11) rfl rfl (XS.iload X0.here hx rfl (hb hby own_d16_12) rfl k)))) ?_
  show own_Go _ _ _ _ s₁ (mkF m 14 #[.val (.ref a_1), .val (.ref a_2), .val (.ref a_3), .val (.int 1), .val (.ref a_5), .val (.int 0), .unset, .unset] [(.int 0), (.ref a_2), (.ref a_5)])
  obtain ⟨q7, c7, R7, s7, t7⟩ := id pr_A_a_2
  have hin7 : ¬ ((0 : Int32) < 0 ∨ c7.slots.size ≤ ((0 : Int32)).toNatClampNeg) := inb_of s7 ⟨by decide, by decide⟩
  have u7 : c7.slots[((0 : Int32)).toNatClampNeg]? = some (.int 1) := own_at (k := 0) t7 s7 hin7 (by decide) (rfl)
  refine own_go (fun _ k => X0.iaload hx (j := (0 : Int32)) (v := (.int 1)) (by rw [e0]; exact R7.1) (State.isArrayOf_alike hZ.alike R7.2.1) R7.2.2 hin7 u7 (g := (mkF m 14 #[.val (.ref a_1), .val (.ref a_2), .val (.ref a_3), .val (.int 1), .val (.ref a_5), .val (.int 0), .unset, .unset] [(.int 0), (.ref a_2), (.ref a_5)])) rfl rfl (hb hby own_d16_14) _ k) ?_
  show own_Go _ _ _ _ s₁ (mkF m 15 #[.val (.ref a_1), .val (.ref a_2), .val (.ref a_3), .val (.int 1), .val (.ref a_5), .val (.int 0), .unset, .unset] [(.int 1), (.ref a_5)])
  refine own_go (fun _ k => XS.iconst X0.here hx rfl (hb hby own_d16_15) (XS.iadd X0.here hx rfl (hb hby own_d16_16) rfl k)) ?_
  have sd8 : ∀ target, Steps p.tables e below (s₁.setTop (mkF m 18 #[.val (.ref a_1), .val (.ref a_2), .val (.ref a_3), .val (.int 1), .val (.ref a_5), .val (.int 0), .unset, .unset] [(.int 2), (.ref a_5), (.int 2), (.ref a_5)])) target → Steps p.tables e below (s₁.setTop (mkF m 17 #[.val (.ref a_1), .val (.ref a_2), .val (.ref a_3), .val (.int 1), .val (.ref a_5), .val (.int 0), .unset, .unset] [(.int 2), (.ref a_5)])) target := fun target kk => by
    jvm_step X0.here [X0.here.top, hx, (hb hby own_d16_17), Value.category]
    exact kk
  refine own_go (fun _ k => sd8 _ k) ?_
  show own_Go _ _ _ _ s₁ (mkF m 18 #[.val (.ref a_1), .val (.ref a_2), .val (.ref a_3), .val (.int 1), .val (.ref a_5), .val (.int 0), .unset, .unset] [(.int 2), (.ref a_5), (.int 2), (.ref a_5)])
  obtain ⟨q9, c9, R9, s9, t9⟩ := id pr_A_a_5
  have hin9 : ¬ ((2 : Int32) < 0 ∨ c9.slots.size ≤ ((2 : Int32)).toNatClampNeg) := inb_of s9 ⟨by decide, by decide⟩
  have u9 : c9.slots[((2 : Int32)).toNatClampNeg]? = some (.int 0) := own_at (k := 2) t9 s9 hin9 (by decide) (rfl)
  refine own_go (fun _ k => X0.iaload hx (j := (2 : Int32)) (v := (.int 0)) (by rw [e0]; exact R9.1) (State.isArrayOf_alike hZ.alike R9.2.1) R9.2.2 hin9 u9 (g := (mkF m 18 #[.val (.ref a_1), .val (.ref a_2), .val (.ref a_3), .val (.int 1), .val (.ref a_5), .val (.int 0), .unset, .unset] [(.int 2), (.ref a_5), (.int 2), (.ref a_5)])) rfl rfl (hb hby own_d16_18) _ k) ?_
  show own_Go _ _ _ _ s₁ (mkF m 19 #[.val (.ref a_1), .val (.ref a_2), .val (.ref a_3), .val (.int 1), .val (.ref a_5), .val (.int 0), .unset, .unset] [(.int 0), (.int 2), (.ref a_5)])
  refine own_go (fun _ k => XS.iconst X0.here hx rfl (hb hby own_d16_19) (XS.iadd X0.here hx rfl (hb hby own_d16_20) rfl k)) ?_
  obtain ⟨q10, c10, R10, s10, t10⟩ := id pr_A_a_5
  have hin10 : ¬ ((2 : Int32) < 0 ∨ c10.slots.size ≤ ((2 : Int32)).toNatClampNeg) := inb_of s10 ⟨by decide, by decide⟩
  obtain ⟨T11, h11, X11, e11, W11, st11⟩ := stI X0 hx hZ e0 R10 (j := (2 : Int32)) hin10 (g := (mkF m 21 #[.val (.ref a_1), .val (.ref a_2), .val (.ref a_3), .val (.int 1), .val (.ref a_5), .val (.int 0), .unset, .unset] [(.int 1), (.int 2), (.ref a_5)])) rfl rfl (hb hby own_d16_21)
  have V11 : own_AV Z h11 a_5 .int 4 (own_upd (fun _ => (.int 0)) 2 (.int 1)) := own_AV.set (k := 2) pr_A_a_5 W11 (by decide)
  have z12 := W11.size
  have K11 : Keep h0 h11 [a_5] := K0.wr W11 (Or.inl (List.mem_of_getElem? (i := 0) rfl))
  have N11 := Fr.snoc X11 N0 (by omega : n0 ≤ a_5)
  refine own_go (fun _ k => st11 _ k) ?_
  show own_Go _ _ _ _ T11 (mkF m 22 #[.val (.ref a_1), .val (.ref a_2), .val (.ref a_3), .val (.int 1), .val (.ref a_5), .val (.int 0), .unset, .unset] [])
  refine own_go (fun _ k => XS.iinc X11.here hx rfl (hb hby own_d16_22) rfl (l' := #[.val (.ref a_1), .val (.ref a_2), .val (.ref a_3), .val (.int 1), .val (.ref a_5), .val (.int 1), .unset, .unset]) rfl (XS.goto X11.here hx rfl (pc0 := 25) (pc' := 3) rfl (hb hby own_d16_25) (by decide) (by decide) (XS.iload X11.here hx rfl (hb hby own_d16_3) rfl (XS.iloadN X11.here hx rfl (hb hby own_d16_5) rfl k)))) ?_
  show own_Go _ _ _ _ T11 (mkF m 6 #[.val (.ref a_1), .val (.ref a_2), .val (.ref a_3), .val (.int 1), .val (.ref a_5), .val (.int 1), .unset, .unset] [(.int 1), (.int 1)])
  have hc13 : ¬ ((1 : Int32) < (1 : Int32)) := by decide
  refine own_go (fun _ k => XS.icmpYes X11.here hx rfl (pc0 := 6) (pc' := 28) rfl (hb hby own_d16_6) rfl (Jvm.Free.XT.ii_ge_t hc13) (by decide) (by decide) (XS.iconst X11.here hx rfl (hb hby own_d16_28) (XS.istore X11.here hx rfl (hb hby own_d16_29) rfl (l' := #[.val (.ref a_1), .val (.ref a_2), .val (.ref a_3), .val (.int 1), .val (.ref a_5), .val (.int 0), .unset, .unset]) rfl (XS.iload X11.here hx rfl (hb hby own_d16_31) rfl k)))) ?_
  show own_Go _ _ _ _ T11 (mkF m 33 #[.val (.ref a_1), .val (.ref a_2), .val (.ref a_3), .val (.int 1), .val (.ref a_5), .val (.int 0), .unset, .unset] [(.int 0)])
  refine own_go (fun _ k => XS.aloadN X11.here hx rfl (hb hby own_d16_33) rfl rfl k) ?_
  have f14 := (pr_F_a_1_variableCount.other W11 (Or.inl (own_ne (by omega))))
  obtain ⟨T15, X15, e15, st15⟩ := getF X11 hx hZ hown (host := "") (Or.inl (own_w23 hw)) Via.refl e11 f14 (g := (mkF m 34 #[.val (.ref a_1), .val (.ref a_2), .val (.ref a_3), .val (.int 1), .val (.ref a_5), .val (.int 0), .unset, .unset] [(.ref a_1), (.int 0)])) rfl rfl (hb hby own_d16_34)
  refine own_go (fun _ k => st15 _ k) ?_
  show own_Go _ _ _ _ T15 (mkF m 37 #[.val (.ref a_1), .val (.ref a_2), .val (.ref a_3), .val (.int 1), .val (.ref a_5), .val (.int 0), .unset, .unset] [(.int 3), (.int 0)])
  have hc16 : (0 : Int32) < (3 : Int32) := by decide
  refine own_go (fun _ k => XS.icmpNo X15.here hx rfl (hb hby own_d16_37) rfl (Jvm.Free.XT.ii_ge_f hc16) (XS.aload X15.here hx rfl (hb hby own_d16_40) rfl rfl (XS.iload X15.here hx rfl (hb hby own_d16_42) rfl (XS.iconst X15.here hx rfl (hb hby own_d16_44) k)))) ?_
  show own_Go _ _ _ _ T15 (mkF m 45 #[.val (.ref a_1), .val (.ref a_2), .val (.ref a_3), .val (.int 1), .val (.ref a_5), .val (.int 0), .unset, .unset] [(.int 1), (.int 0), (.ref a_5)])
  refine own_go (fun _ k => XS.iadd X15.here hx rfl (hb hby own_d16_45) rfl k) ?_
  have sd17 : ∀ target, Steps p.tables e below (T15.setTop (mkF m 47 #[.val (.ref a_1), .val (.ref a_2), .val (.ref a_3), .val (.int 1), .val (.ref a_5), .val (.int 0), .unset, .unset] [(.int 1), (.ref a_5), (.int 1), (.ref a_5)])) target → Steps p.tables e below (T15.setTop (mkF m 46 #[.val (.ref a_1), .val (.ref a_2), .val (.ref a_3), .val (.int 1), .val (.ref a_5), .val (.int 0), .unset, .unset] [(.int 1), (.ref a_5)])) target := fun target kk => by
    jvm_step X15.here [X15.here.top, hx, (hb hby own_d16_46), Value.category]
    exact kk
  refine own_go (fun _ k => sd17 _ k) ?_
  show own_Go _ _ _ _ T15 (mkF m 47 #[.val (.ref a_1), .val (.ref a_2), .val (.ref a_3), .val (.int 1), .val (.ref a_5), .val (.int 0), .unset, .unset] [(.int 1), (.ref a_5), (.int 1), (.ref a_5)])
  obtain ⟨q18, c18, R18, s18, t18⟩ := id V11
  have hin18 : ¬ ((1 : Int32) < 0 ∨ c18.slots.size ≤ ((1 : Int32)).toNatClampNeg) := inb_of s18 ⟨by decide, by decide⟩
  have u18 : c18.slots[((1 : Int32)).toNatClampNeg]? = some (.int 0) := own_at (k := 1) t18 s18 hin18 (by decide) (rfl)
  refine own_go (fun _ k => X15.iaload hx (j := (1 : Int32)) (v := (.int 0)) (by rw [e15]; exact R18.1) (State.isArrayOf_alike hZ.alike R18.2.1) R18.2.2 hin18 u18 (g := (mkF m 47 #[.val (.ref a_1), .val (.ref a_2), .val (.ref a_3), .val (.int 1), .val (.ref a_5), .val (.int 0), .unset, .unset] [(.int 1), (.ref a_5), (.int 1), (.ref a_5)])) rfl rfl (hb hby own_d16_47) _ k) ?_
  show own_Go _ _ _ _ T15 (mkF m 48 #[.val (.ref a_1), .val (.ref a_2), .val (.ref a_3), .val (.int 1), .val (.ref a_5), .val (.int 0), .unset, .unset] [(.int 0), (.int 1), (.ref a_5)])
  refine own_go (fun _ k => XS.aload X15.here hx rfl (hb hby own_d16_48) rfl rfl (XS.iload X15.here hx rfl (hb hby own_d16_50) rfl k)) ?_
  obtain ⟨q19, c19, R19, s19, t19⟩ := id V11
  have hin19 : ¬ ((0 : Int32) < 0 ∨ c19.slots.size ≤ ((0 : Int32)).toNatClampNeg) := inb_of s19 ⟨by decide, by decide⟩
  have u19 : c19.slots[((0 : Int32)).toNatClampNeg]? = some (.int 0) := own_at (k := 0) t19 s19 hin19 (by decide) (rfl)
  refine own_go (fun _ k => X15.iaload hx (j := (0 : Int32)) (v := (.int 0)) (by rw [e15]; exact R19.1) (State.isArrayOf_alike hZ.alike R19.2.1) R19.2.2 hin19 u19 (g := (mkF m 52 #[.val (.ref a_1), .val (.ref a_2), .val (.ref a_3), .val (.int 1), .val (.ref a_5), .val (.int 0), .unset, .unset] [(.int 0), (.ref a_5), (.int 0), (.int 1), (.ref a_5)])) rfl rfl (hb hby own_d16_52) _ k) ?_
  show own_Go _ _ _ _ T15 (mkF m 53 #[.val (.ref a_1), .val (.ref a_2), .val (.ref a_3), .val (.int 1), .val (.ref a_5), .val (.int 0), .unset, .unset] [(.int 0), (.int 0), (.int 1), (.ref a_5)])
  refine own_go (fun _ k => XS.iadd X15.here hx rfl (hb hby own_d16_53) rfl k) ?_
  obtain ⟨q20, c20, R20, s20, t20⟩ := id V11
  have hin20 : ¬ ((1 : Int32) < 0 ∨ c20.slots.size ≤ ((1 : Int32)).toNatClampNeg) := inb_of s20 ⟨by decide, by decide⟩
  obtain ⟨T21, h21, X21, e21, W21, st21⟩ := stI X15 hx hZ e15 R20 (j := (1 : Int32)) hin20 (g := (mkF m 54 #[.val (.ref a_1), .val (.ref a_2), .val (.ref a_3), .val (.int 1), .val (.ref a_5), .val (.int 0), .unset, .unset] [(.int 0), (.int 1), (.ref a_5)])) rfl rfl (hb hby own_d16_54)
  have V21 : own_AV Z h21 a_5 .int 4 (own_upd (own_upd (fun _ => (.int 0)) 2 (.int 1)) 1 (.int 0)) := own_AV.set (k := 1) V11 W21 (by decide)
  have z22 := W21.size
  have K21 : Keep h0 h21 [a_5] := K11.wr W21 (Or.inl (List.mem_of_getElem? (i := 0) rfl))
  have N21 := Fr.snoc X21 N11 (by omega : n0 ≤ a_5)
  refine own_go (fun _ k => st21 _ k) ?_
  show own_Go _ _ _ _ T21 (mkF m 55 #[.val (.ref a_1), .val (.ref a_2), .val (.ref a_3), .val (.int 1), .val (.ref a_5), .val (.int 0), .unset, .unset] [])
  refine own_go (fun _ k => XS.iinc X21.here hx rfl (hb hby own_d16_55) rfl (l' := #[.val (.ref a_1), .val (.ref a_2), .val (.ref a_3), .val (.int 1), .val (.ref a_5), .val (.int 1), .unset, .unset]) rfl (XS.goto X21.here hx rfl (pc0 := 58) (pc' := 31) rfl (hb hby own_d16_58) (by decide) (by decide) (XS.iload X21.here hx rfl (hb hby own_d16_31) rfl (XS.aloadN X21.here hx rfl (hb hby own_d16_33) rfl rfl k)))) ?_
  show own_Go _ _ _ _ T21 (mkF m 34 #[.val (.ref a_1), .val (.ref a_2), .val (.ref a_3), .val (.int 1), .val (.ref a_5), .val (.int 1), .unset, .unset] [(.ref a_1), (.int 1)])
  have f23 := (f14.other W21 (Or.inl (own_ne (by omega))))
  obtain ⟨T24, X24, e24, st24⟩ := getF X21 hx hZ hown (host := "") (Or.inl (own_w23 hw)) Via.refl e21 f23 (g := (mkF m 34 #[.val (.ref a_1), .val (.ref a_2), .val (.ref a_3), .val (.int 1), .val (.ref a_5), .val (.int 1), .unset, .unset] [(.ref a_1), (.int 1)])) rfl rfl (hb hby own_d16_34)
  refine own_go (fun _ k => st24 _ k) ?_
  show own_Go _ _ _ _ T24 (mkF m 37 #[.val (.ref a_1), .val (.ref a_2), .val (.ref a_3), .val (.int 1), .val (.ref a_5), .val (.int 1), .unset, .unset] [(.int 3), (.int 1)])
  have hc25 : (1 : Int32) < (3 : Int32) := by decide
  refine own_go (fun _ k => XS.icmpNo X24.here hx rfl (hb hby own_d16_37) rfl (Jvm.Free.XT.ii_ge_f hc25) (XS.aload X24.here hx rfl (hb hby own_d16_40) rfl rfl (XS.iload X24.here hx rfl (hb hby own_d16_42) rfl (XS.iconst X24.here hx rfl (hb hby own_d16_44) k)))) ?_
  show own_Go _ _ _ _ T24 (mkF m 45 #[.val (.ref a_1), .val (.ref a_2), .val (.ref a_3), .val (.int 1), .val (.ref a_5), .val (.int 1), .unset, .unset] [(.int 1), (.int 1), (.ref a_5)])
  refine own_go (fun _ k => XS.iadd X24.here hx rfl (hb hby own_d16_45) rfl k) ?_
  have sd26 : ∀ target, Steps p.tables e below (T24.setTop (mkF m 47 #[.val (.ref a_1), .val (.ref a_2), .val (.ref a_3), .val (.int 1), .val (.ref a_5), .val (.int 1), .unset, .unset] [(.int 2), (.ref a_5), (.int 2), (.ref a_5)])) target → Steps p.tables e below (T24.setTop (mkF m 46 #[.val (.ref a_1), .val (.ref a_2), .val (.ref a_3), .val (.int 1), .val (.ref a_5), .val (.int 1), .unset, .unset] [(.int 2), (.ref a_5)])) target := fun target kk => by
    jvm_step X24.here [X24.here.top, hx, (hb hby own_d16_46), Value.category]
    exact kk
  refine own_go (fun _ k => sd26 _ k) ?_
  show own_Go _ _ _ _ T24 (mkF m 47 #[.val (.ref a_1), .val (.ref a_2), .val (.ref a_3), .val (.int 1), .val (.ref a_5), .val (.int 1), .unset, .unset] [(.int 2), (.ref a_5), (.int 2), (.ref a_5)])
  obtain ⟨q27, c27, R27, s27, t27⟩ := id V21
  have hin27 : ¬ ((2 : Int32) < 0 ∨ c27.slots.size ≤ ((2 : Int32)).toNatClampNeg) := inb_of s27 ⟨by decide, by decide⟩
  have u27 : c27.slots[((2 : Int32)).toNatClampNeg]? = some (.int 1) := own_at (k := 2) t27 s27 hin27 (by decide) (rfl)
  refine own_go (fun _ k => X24.iaload hx (j := (2 : Int32)) (v := (.int 1)) (by rw [e24]; exact R27.1) (State.isArrayOf_alike hZ.alike R27.2.1) R27.2.2 hin27 u27 (g := (mkF m 47 #[.val (.ref a_1), .val (.ref a_2), .val (.ref a_3), .val (.int 1), .val (.ref a_5), .val (.int 1), .unset, .unset] [(.int 2), (.ref a_5), (.int 2), (.ref a_5)])) rfl rfl (hb hby own_d16_47) _ k) ?_
  show own_Go _ _ _ _ T24 (mkF m 48 #[.val (.ref a_1), .val (.ref a_2), .val (.ref a_3), .val (.int 1), .val (.ref a_5), .val (.int 1), .unset, .unset] [(.int 1), (.int 2), (.ref a_5)])
  refine own_go (fun _ k => XS.aload X24.here hx rfl (hb hby own_d16_48) rfl rfl (XS.iload X24.here hx rfl (hb hby own_d16_50) rfl k)) ?_
  obtain ⟨q28, c28, R28, s28, t28⟩ := id V21
  have hin28 : ¬ ((1 : Int32) < 0 ∨ c28.slots.size ≤ ((1 : Int32)).toNatClampNeg) := inb_of s28 ⟨by decide, by decide⟩
  have u28 : c28.slots[((1 : Int32)).toNatClampNeg]? = some (.int 0) := own_at (k := 1) t28 s28 hin28 (by decide) (rfl)
  refine own_go (fun _ k => X24.iaload hx (j := (1 : Int32)) (v := (.int 0)) (by rw [e24]; exact R28.1) (State.isArrayOf_alike hZ.alike R28.2.1) R28.2.2 hin28 u28 (g := (mkF m 52 #[.val (.ref a_1), .val (.ref a_2), .val (.ref a_3), .val (.int 1), .val (.ref a_5), .val (.int 1), .unset, .unset] [(.int 1), (.ref a_5), (.int 1), (.int 2), (.ref a_5)])) rfl rfl (hb hby own_d16_52) _ k) ?_
  show own_Go _ _ _ _ T24 (mkF m 53 #[.val (.ref a_1), .val (.ref a_2), .val (.ref a_3), .val (.int 1), .val (.ref a_5), .val (.int 1), .unset, .unset] [(.int 0), (.int 1), (.int 2), (.ref a_5)])
  refine own_go (fun _ k => XS.iadd X24.here hx rfl (hb hby own_d16_53) rfl k) ?_
  obtain ⟨q29, c29, R29, s29, t29⟩ := id V21
  have hin29 : ¬ ((2 : Int32) < 0 ∨ c29.slots.size ≤ ((2 : Int32)).toNatClampNeg) := inb_of s29 ⟨by decide, by decide⟩
  obtain ⟨T30, h30, X30, e30, W30, st30⟩ := stI X24 hx hZ e24 R29 (j := (2 : Int32)) hin29 (g := (mkF m 54 #[.val (.ref a_1), .val (.ref a_2), .val (.ref a_3), .val (.int 1), .val (.ref a_5), .val (.int 1), .unset, .unset] [(.int 1), (.int 2), (.ref a_5)])) rfl rfl (hb hby own_d16_54)
  have V30 : own_AV Z h30 a_5 .int 4 (own_upd (own_upd (own_upd (fun _ => (.int 0)) 2 (.int 1)) 1 (.int 0)) 2 (.int 1)) := own_AV.set (k := 2) V21 W30 (by decide)
  have z31 := W30.size
  have K30 : Keep h0 h30 [a_5] := K21.wr W30 (Or.inl (List.mem_of_getElem? (i := 0) rfl))
  have N30 := Fr.snoc X30 N21 (by omega : n0 ≤ a_5)
  refine own_go (fun _ k => st30 _ k) ?_
  show own_Go _ _ _ _ T30 (mkF m 55 #[.val (.ref a_1), .val (.ref a_2), .val (.ref a_3), .val (.int 1), .val (.ref a_5), .val (.int 1), .unset, .unset] [])
  refine own_go (fun _ k => XS.iinc X30.here hx rfl (hb hby own_d16_55) rfl (l' := #[.val (.ref a_1), .val (.ref a_2), .val (.ref a_3), .val (.int 1), .val (.ref a_5), .val (.int 2), .unset, .unset]) rfl (XS.goto X30.here hx rfl (pc0 := 58) (pc' := 31) rfl (hb hby own_d16_58) (by decide) (by decide) (XS.iload X30.here hx rfl (hb hby own_d16_31) rfl (XS.aloadN X30.here hx rfl (hb hby own_d16_33) rfl rfl k)))) ?_
  show own_Go _ _ _ _ T30 (mkF m 34 #[.val (.ref a_1), .val (.ref a_2), .val (.ref a_3), .val (.int 1), .val (.ref a_5), .val (.int 2), .unset, .unset] [(.ref a_1), (.int 2)])
  have f32 := (f23.other W30 (Or.inl (own_ne (by omega))))
  obtain ⟨T33, X33, e33, st33⟩ := getF X30 hx hZ hown (host := "") (Or.inl (own_w23 hw)) Via.refl e30 f32 (g := (mkF m 34 #[.val (.ref a_1), .val (.ref a_2), .val (.ref a_3), .val (.int 1), .val (.ref a_5), .val (.int 2), .unset, .unset] [(.ref a_1), (.int 2)])) rfl rfl (hb hby own_d16_34)
  refine own_go (fun _ k => st33 _ k) ?_
  show own_Go _ _ _ _ T33 (mkF m 37 #[.val (.ref a_1), .val (.ref a_2), .val (.ref a_3), .val (.int 1), .val (.ref a_5), .val (.int 2), .unset, .unset] [(.int 3), (.int 2)])
  have hc34 : (2 : Int32) < (3 : Int32) := by decide
  refine own_go (fun _ k => XS.icmpNo X33.here hx rfl (hb hby own_d16_37) rfl (Jvm.Free.XT.ii_ge_f hc34) (XS.aload X33.here hx rfl (hb hby own_d16_40) rfl rfl (XS.iload X33.here hx rfl (hb hby own_d16_42) rfl (XS.iconst X33.here hx rfl (hb hby own_d16_44) k)))) ?_
  show own_Go _ _ _ _ T33 (mkF m 45 #[.val (.ref a_1), .val (.ref a_2), .val (.ref a_3), .val (.int 1), .val (.ref a_5), .val (.int 2), .unset, .unset] [(.int 1), (.int 2), (.ref a_5)])
  refine own_go (fun _ k => XS.iadd X33.here hx rfl (hb hby own_d16_45) rfl k) ?_
  have sd35 : ∀ target, Steps p.tables e below (T33.setTop (mkF m 47 #[.val (.ref a_1), .val (.ref a_2), .val (.ref a_3), .val (.int 1), .val (.ref a_5), .val (.int 2), .unset, .unset] [(.int 3), (.ref a_5), (.int 3), (.ref a_5)])) target → Steps p.tables e below (T33.setTop (mkF m 46 #[.val (.ref a_1), .val (.ref a_2), .val (.ref a_3), .val (.int 1), .val (.ref a_5), .val (.int 2), .unset, .unset] [(.int 3), (.ref a_5)])) target := fun target kk => by
    jvm_step X33.here [X33.here.top, hx, (hb hby own_d16_46), Value.category]
    exact kk
  refine own_go (fun _ k => sd35 _ k) ?_
  show own_Go _ _ _ _ T33 (mkF m 47 #[.val (.ref a_1), .val (.ref a_2), .val (.ref a_3), .val (.int 1), .val (.ref a_5), .val (.int 2), .unset, .unset] [(.int 3), (.ref a_5), (.int 3), (.ref a_5)])
  obtain ⟨q36, c36, R36, s36, t36⟩ := id V30
  have hin36 : ¬ ((3 : Int32) < 0 ∨ c36.slots.size ≤ ((3 : Int32)).toNatClampNeg) := inb_of s36 ⟨by decide, by decide⟩
  have u36 : c36.slots[((3 : Int32)).toNatClampNeg]? = some (.int 0) := own_at (k := 3) t36 s36 hin36 (by decide) (rfl)
  refine own_go (fun _ k => X33.iaload hx (j := (3 : Int32)) (v := (.int 0)) (by rw [e33]; exact R36.1) (State.isArrayOf_alike hZ.alike R36.2.1) R36.2.2 hin36 u36 (g := (mkF m 47 #[.val (.ref a_1), .val (.ref a_2), .val (.ref a_3), .val (.int 1), .val (.ref a_5), .val (.int 2), .unset, .unset] [(.int 3), (.ref a_5), (.int 3), (.ref a_5)])) rfl rfl (hb hby own_d16_47) _ k) ?_
  show own_Go _ _ _ _ T33 (mkF m 48 #[.val (.ref a_1), .val (.ref a_2), .val (.ref a_3), .val (.int 1), .val (.ref a_5), .val (.int 2), .unset, .unset] [(.int 0), (.int 3), (.ref a_5)])
  refine own_go (fun _ k => XS.aload X33.here hx rfl (hb hby own_d16_48) rfl rfl (XS.iload X33.here hx rfl (hb hby own_d16_50) rfl k)) ?_
  obtain ⟨q37, c37, R37, s37, t37⟩ := id V30
  have hin37 : ¬ ((2 : Int32) < 0 ∨ c37.slots.size ≤ ((2 : Int32)).toNatClampNeg) := inb_of s37 ⟨by decide, by decide⟩
  have u37 : c37.slots[((2 : Int32)).toNatClampNeg]? = some (.int 1) := own_at (k := 2) t37 s37 hin37 (by decide) (rfl)
  refine own_go (fun _ k => X33.iaload hx (j := (2 : Int32)) (v := (.int 1)) (by rw [e33]; exact R37.1) (State.isArrayOf_alike hZ.alike R37.2.1) R37.2.2 hin37 u37 (g := (mkF m 52 #[.val (.ref a_1), .val (.ref a_2), .val (.ref a_3), .val (.int 1), .val (.ref a_5), .val (.int 2), .unset, .unset] [(.int 2), (.ref a_5), (.int 0), (.int 3), (.ref a_5)])) rfl rfl (hb hby own_d16_52) _ k) ?_
  show own_Go _ _ _ _ T33 (mkF m 53 #[.val (.ref a_1), .val (.ref a_2), .val (.ref a_3), .val (.int 1), .val (.ref a_5), .val (.int 2), .unset, .unset] [(.int 1), (.int 0), (.int 3), (.ref a_5)])
  refine own_go (fun _ k => XS.iadd X33.here hx rfl (hb hby own_d16_53) rfl k) ?_
  obtain ⟨q38, c38, R38, s38, t38⟩ := id V30
  have hin38 : ¬ ((3 : Int32) < 0 ∨ c38.slots.size ≤ ((3 : Int32)).toNatClampNeg) := inb_of s38 ⟨by decide, by decide⟩
  obtain ⟨T39, h39, X39, e39, W39, st39⟩ := stI X33 hx hZ e33 R38 (j := (3 : Int32)) hin38 (g := (mkF m 54 #[.val (.ref a_1), .val (.ref a_2), .val (.ref a_3), .val (.int 1), .val (.ref a_5), .val (.int 2), .unset, .unset] [(.int 1), (.int 3), (.ref a_5)])) rfl rfl (hb hby own_d16_54)
  have V39 : own_AV Z h39 a_5 .int 4 (own_upd (own_upd (own_upd (own_upd (fun _ => (.int 0)) 2 (.int 1)) 1 (.int 0)) 2 (.int 1)) 3 (.int 1)) := own_AV.set (k := 3) V30 W39 (by decide)
  have z40 := W39.size
  have K39 : Keep h0 h39 [a_5] := K30.wr W39 (Or.inl (List.mem_of_getElem? (i := 0) rfl))
  have N39 := Fr.snoc X39 N30 (by omega : n0 ≤ a_5)
  refine own_go (fun _ k => st39 _ k) ?_
  show own_Go _ _ _ _ T39 (mkF m 55 #[.val (.ref a_1), .val (.ref a_2), .val (.ref a_3), .val (.int 1), .val (.ref a_5), .val (.int 2), .unset, .unset] [])
  refine own_go (fun _ k => XS.iinc X39.here hx rfl (hb hby own_d16_55) rfl (l' := #[.val (.ref a_1), .val (.ref a_2), .val (.ref a_3), .val (.int 1), .val (.ref a_5), .val (.int 3), .unset, .unset]) rfl (XS.goto X39.here hx rfl (pc0 := 58) (pc' := 31) rfl (hb hby own_d16_58) (by decide) (by decide) (XS.iload X39.here hx rfl (hb hby own_d16_31) rfl (XS.aloadN X39.here hx rfl (hb hby own_d16_33) rfl rfl k)))) ?_
  show own_Go _ _ _ _ T39 (mkF m 34 #[.val (.ref a_1), .val (.ref a_2), .val (.ref a_3), .val (.int 1), .val (.ref a_5), .val (.int 3), .unset, .unset] [(.ref a_1), (.int 3)])
  have f41 := (f32.other W39 (Or.inl (own_ne (by omega))))
  obtain ⟨T42, X42, e42, st42⟩ := getF X39 hx hZ hown (host := "") (Or.inl (own_w23 hw)) Via.refl e39 f41 (g := (mkF m 34 #[.val (.ref a_1), .val (.ref a_2), .val (.ref a_3), .val (.int 1), .val (.ref a_5), .val (.int 3), .unset, .unset] [(.ref a_1), (.int 3)])) rfl rfl (hb hby own_d16_34)
  refine own_go (fun _ k => st42 _ k) ?_
  show own_Go _ _ _ _ T42 (mkF m 37 #[.val (.ref a_1), .val (.ref a_2), .val (.ref a_3), .val (.int 1), .val (.ref a_5), .val (.int 3), .unset, .unset] [(.int 3), (.int 3)])
  have hc43 : ¬ ((3 : Int32) < (3 : Int32)) := by decide
  refine own_go (fun _ k => XS.icmpYes X42.here hx rfl (pc0 := 37) (pc' := 61) rfl (hb hby own_d16_37) rfl (Jvm.Free.XT.ii_ge_t hc43) (by decide) (by decide) (XS.aload X42.here hx rfl (hb hby own_d16_61) rfl rfl (XS.aloadN X42.here hx rfl (hb hby own_d16_63) rfl rfl k))) ?_
  obtain ⟨T44, X44, e44, st44⟩ := getF X42 hx hZ hown (host := "") (Or.inl (own_w23 hw)) Via.refl e42 f41 (g := (mkF m 64 #[.val (.ref a_1), .val (.ref a_2), .val (.ref a_3), .val (.int 1), .val (.ref a_5), .val (.int 3), .unset, .unset] [(.ref a_1), (.ref a_5)])) rfl rfl (hb hby own_d16_64)
  refine own_go (fun _ k => st44 _ k) ?_
  show own_Go _ _ _ _ T44 (mkF m 67 #[.val (.ref a_1), .val (.ref a_2), .val (.ref a_3), .val (.int 1), .val (.ref a_5), .val (.int 3), .unset, .unset] [(.int 3), (.ref a_5)])
  obtain ⟨_, _, ⟨T45, L45, k45, n45⟩, -, X45, ⟨Lc45, hQ45, l45, y45, z45⟩, st45⟩ := Jvm.LawKit.callS X44 hx (y := (⟨"java/util/Arrays", "copyOf", "([II)[I"⟩ : MethodName)) hown (mvT hZ (hw _ (List.mem_of_getElem? (i := 96) rfl))) (mvT hZ (hw _ (List.mem_of_getElem? (i := 97) rfl))) (mvT hZ (own_w72 hw)) (mvT hZ (hw _ (List.mem_of_getElem? (i := 98) rfl))) (by decide) (backOf (W := 0) (own_rm17_s2 l Z a0 hw [] a_5  h39 n0 (by omega) V39) hZ (hw _ (List.mem_of_getElem? (i := 98) rfl)) (own_w72 hw) (by decide) (by decide)) (g := (mkF m 67 #[.val (.ref a_1), .val (.ref a_2), .val (.ref a_3), .val (.int 1), .val (.ref a_5), .val (.int 3), .unset, .unset] [(.int 3), (.ref a_5)])) rfl (by rw [hml]; rfl) (argsL := [(.ref a_5), (.int 3)]) (rest := []) (lenOf own_pd10 rfl) rfl (by show 2 * 0 + _ ≤ _; exact Nat.le_of_eq rfl) (hb hby own_d16_67) (fun _ _ => ⟨rfl, e44, (by decide : 0 + 1 ≤ _), (by decide : 0 + 3 ≤ _)⟩)
  dsimp only [Pt.U, Pt.locs, Pt.cells, Pt.slots] at X45 l45 y45 z45 st45 hQ45
  have y45 : k45 = 1 := y45
  have z45 : n45 = 3 := z45
  obtain ⟨x_46, rfl, N45q, K45q, f47, f48⟩ := hQ45
  have N45 : Fr n0 L45 := by rw [l45]; exact Fr.app N39 N45q
  have z49 := K45q.1
  have K45 : Keep h0 T45.heap [a_5] := K39.trans K45q all0
  have z50 := own_lt f47.lt
  refine own_go (fun _ k => st45 _ k) ?_
  show own_Go _ _ _ _ T45 (mkF m 70 #[.val (.ref a_1), .val (.ref a_2), .val (.ref a_3), .val (.int 1), .val (.ref a_5), .val (.int 3), .unset, .unset] [(.ref x_46)])
  refine own_go (fun _ k => XS.astore X45.here hx rfl (hb hby own_d16_70) rfl rfl (l' := #[.val (.ref a_1), .val (.ref a_2), .val (.ref a_3), .val (.int 1), .val (.ref a_5), .val (.ref x_46), .unset, .unset]) rfl (XS.iloadN X45.here hx rfl (hb hby own_d16_72) rfl k)) ?_
  obtain ⟨T51, h51, k51, X51, e51, E51, A51, st51⟩ := newP X45 hx hZ (hw _ (List.mem_of_getElem? (i := 9) rfl)) rfl (g := (mkF m 73 #[.val (.ref a_1), .val (.ref a_2), .val (.ref a_3), .val (.int 1), .val (.ref a_5), .val (.ref x_46), .unset, .unset] [(.int 1)])) rfl (hb hby own_d16_73) rfl (by decide) (cap := 1) (by decide) (by decide) (by rw [y45]; decide) (by rw [z45]; decide)
  obtain ⟨b51, g51⟩ : ∃ z, z = T45.heap.size := ⟨_, rfl⟩
  rw [← g51] at A51 st51
  have z52 := E51.1
  have lt_b51 := own_lt A51.lt
  have K51 : Keep h0 h51 [a_5] := K45.ext E51
  have V_b51 : own_AV Z h51 b51 .int 1 (fun _ => (.int 0)) := own_AV.new A51 (by decide)
  refine own_go (fun _ k => st51 _ k) ?_
  show own_Go _ _ _ _ T51 (mkF m 75 #[.val (.ref a_1), .val (.ref a_2), .val (.ref a_3), .val (.int 1), .val (.ref a_5), .val (.ref x_46), .unset, .unset] [(.ref b51)])
  refine own_go (fun _ k => XS.astore X51.here hx rfl (hb hby own_d16_75) rfl rfl (l' := #[.val (.ref a_1), .val (.ref a_2), .val (.ref a_3), .val (.int 1), .val (.ref a_5), .val (.ref x_46), .val (.ref b51), .unset]) rfl (XS.iconst X51.here hx rfl (hb hby own_d16_77) (XS.istore X51.here hx rfl (hb hby own_d16_78) rfl (l' := #[.val (.ref a_1), .val (.ref a_2), .val (.ref a_3), .val (.int 1), .val (.ref a_5), .val (.ref x_46), .val (.ref b51), .val (.int 0)]) rfl (XS.iload X51.here hx rfl (hb hby own_d16_80) rfl k)))) ?_
  show own_Go _ _ _ _ T51 (mkF m 82 #[.val (.ref a_1), .val (.ref a_2), .val (.ref a_3), .val (.int 1), .val (.ref a_5), .val (.ref x_46), .val (.ref b51), .val (.int 0)] [(.int 0)])
  refine own_go (fun _ k => XS.iloadN X51.here hx rfl (hb hby own_d16_82) rfl k) ?_
  have hc53 : (0 : Int32) < (1 : Int32) := by decide
  refine own_go (fun _ k => XS.icmpNo X51.here hx rfl (hb hby own_d16_83) rfl (Jvm.Free.XT.ii_ge_f hc53) (XS.aload X51.here hx rfl (hb hby own_d16_86) rfl rfl (XS.aload X51.here hx rfl (hb hby own_d16_88) rfl rfl (XS.aloadN X51.here hx rfl (hb hby own_d16_90) rfl rfl k)))) ?_
  show own_Go _ _ _ _ T51 (mkF m 91 #[.val (.ref a_1), .val (.ref a_2), .val (.ref a_3), .val (.int 1), .val (.ref a_5), .val (.ref x_46), .val (.ref b51), .val (.int 0)] [(.ref a_2), (.ref x_46), (.ref b51)])
  refine own_go (fun _ k => XS.iload X51.here hx rfl (hb hby own_d16_91) rfl k) ?_
  have f54 := ((((((pr_A_a_2.other W11 (own_ne (by omega))).other W21 (own_ne (by omega))).other W30 (own_ne (by omega))).other W39 (own_ne (by omega))).keep K45q nin0).ext E51)
  obtain ⟨q55, c55, R55, s55, t55⟩ := id f54
  have hin55 : ¬ ((0 : Int32) < 0 ∨ c55.slots.size ≤ ((0 : Int32)).toNatClampNeg) := inb_of s55 ⟨by decide, by decide⟩
  have u55 : c55.slots[((0 : Int32)).toNatClampNeg]? = some (.int 1) := own_at (k := 0) t55 s55 hin55 (by decide) (rfl)
  refine own_go (fun _ k => X51.iaload hx (j := (0 : Int32)) (v := (.int 1)) (by rw [e51]; exact R55.1) (State.isArrayOf_alike hZ.alike R55.2.1) R55.2.2 hin55 u55 (g := (mkF m 93 #[.val (.ref a_1), .val (.ref a_2), .val (.ref a_3), .val (.int 1), .val (.ref a_5), .val (.ref x_46), .val (.ref b51), .val (.int 0)] [(.int 0), (.ref a_2), (.ref x_46), (.ref b51)])) rfl rfl (hb hby own_d16_93) _ k) ?_
  show own_Go _ _ _ _ T51 (mkF m 94 #[.val (.ref a_1), .val (.ref a_2), .val (.ref a_3), .val (.int 1), .val (.ref a_5), .val (.ref x_46), .val (.ref b51), .val (.int 0)] [(.int 1), (.ref x_46), (.ref b51)])
  have f56 := (f47.ext E51)
  obtain ⟨q57, c57, R57, s57, t57⟩ := id f56
  have hin57 : ¬ ((1 : Int32) < 0 ∨ c57.slots.size ≤ ((1 : Int32)).toNatClampNeg) := inb_of s57 ⟨by decide, by decide⟩
  have u57 : c57.slots[((1 : Int32)).toNatClampNeg]? = some (.int 0) := own_at (k := 1) t57 s57 hin57 (by decide) (rfl)
  refine own_go (fun _ k => X51.iaload hx (j := (1 : Int32)) (v := (.int 0)) (by rw [e51]; exact R57.1) (State.isArrayOf_alike hZ.alike R57.2.1) R57.2.2 hin57 u57 (g := (mkF m 94 #[.val (.ref a_1), .val (.ref a_2), .val (.ref a_3), .val (.int 1), .val (.ref a_5), .val (.ref x_46), .val (.ref b51), .val (.int 0)] [(.int 1), (.ref x_46), (.ref b51)])) rfl rfl (hb hby own_d16_94) _ k) ?_
  show own_Go _ _ _ _ T51 (mkF m 95 #[.val (.ref a_1), .val (.ref a_2), .val (.ref a_3), .val (.int 1), .val (.ref a_5), .val (.ref x_46), .val (.ref b51), .val (.int 0)] [(.int 0), (.ref b51)])
  refine own_go (fun _ k => XS.aloadN X51.here hx rfl (hb hby own_d16_95) rfl rfl (XS.iload X51.here hx rfl (hb hby own_d16_96) rfl k)) ?_
  have f58 := ((((((pr_A_a_3.other W11 (own_ne (by omega))).other W21 (own_ne (by omega))).other W30 (own_ne (by omega))).other W39 (own_ne (by omega))).keep K45q nin0).ext E51)
  obtain ⟨q59, c59, R59, s59, t59⟩ := id f58
  have hin59 : ¬ ((0 : Int32) < 0 ∨ c59.slots.size ≤ ((0 : Int32)).toNatClampNeg) := inb_of s59 ⟨by decide, by decide⟩
  have u59 : c59.slots[((0 : Int32)).toNatClampNeg]? = some (.int 0) := own_at (k := 0) t59 s59 hin59 (by decide) (rfl)
  refine own_go (fun _ k => X51.iaload hx (j := (0 : Int32)) (v := (.int 0)) (by rw [e51]; exact R59.1) (State.isArrayOf_alike hZ.alike R59.2.1) R59.2.2 hin59 u59 (g := (mkF m 98 #[.val (.ref a_1), .val (.ref a_2), .val (.ref a_3), .val (.int 1), .val (.ref a_5), .val (.ref x_46), .val (.ref b51), .val (.int 0)] [(.int 0), (.ref a_3), (.int 0), (.ref b51)])) rfl rfl (hb hby own_d16_98) _ k) ?_
  show own_Go _ _ _ _ T51 (mkF m 99 #[.val (.ref a_1), .val (.ref a_2), .val (.ref a_3), .val (.int 1), .val (.ref a_5), .val (.ref x_46), .val (.ref b51), .val (.int 0)] [(.int 0), (.int 0), (.ref b51)])
  obtain ⟨q60, c60, R60, s60, t60⟩ := id V_b51
  have hin60 : ¬ ((0 : Int32) < 0 ∨ c60.slots.size ≤ ((0 : Int32)).toNatClampNeg) := inb_of s60 ⟨by decide, by decide⟩
  obtain ⟨T61, h61, X61, e61, W61, st61⟩ := stI X51 hx hZ e51 R60 (j := (0 : Int32)) hin60 (g := (mkF m 99 #[.val (.ref a_1), .val (.ref a_2), .val (.ref a_3), .val (.int 1), .val (.ref a_5), .val (.ref x_46), .val (.ref b51), .val (.int 0)] [(.int 0), (.int 0), (.ref b51)])) rfl rfl (hb hby own_d16_99)
  have V61 : own_AV Z h61 b51 .int 1 (own_upd (fun _ => (.int 0)) 0 (.int 0)) := own_AV.set (k := 0) V_b51 W61 (by decide)
  have z62 := W61.size
  have K61 : Keep h0 h61 [a_5] := K51.wr W61 (Or.inr (by omega))
  have N61 := Fr.snoc X61 N45 (by omega : n0 ≤ b51)
  refine own_go (fun _ k => st61 _ k) ?_
  show own_Go _ _ _ _ T61 (mkF m 100 #[.val (.ref a_1), .val (.ref a_2), .val (.ref a_3), .val (.int 1), .val (.ref a_5), .val (.ref x_46), .val (.ref b51), .val (.int 0)] [])
  refine own_go (fun _ k => XS.aload X61.here hx rfl (hb hby own_d16_100) rfl rfl (XS.aloadN X61.here hx rfl (hb hby own_d16_102) rfl rfl (XS.iload X61.here hx rfl (hb hby own_d16_103) rfl k))) ?_
  have f63 := (f54.other W61 (own_ne (by omega)))
  obtain ⟨q64, c64, R64, s64, t64⟩ := id f63
  have hin64 : ¬ ((0 : Int32) < 0 ∨ c64.slots.size ≤ ((0 : Int32)).toNatClampNeg) := inb_of s64 ⟨by decide, by decide⟩
  have u64 : c64.slots[((0 : Int32)).toNatClampNeg]? = some (.int 1) := own_at (k := 0) t64 s64 hin64 (by decide) (rfl)
  refine own_go (fun _ k => X61.iaload hx (j := (0 : Int32)) (v := (.int 1)) (by rw [e61]; exact R64.1) (State.isArrayOf_alike hZ.alike R64.2.1) R64.2.2 hin64 u64 (g := (mkF m 105 #[.val (.ref a_1), .val (.ref a_2), .val (.ref a_3), .val (.int 1), .val (.ref a_5), .val (.ref x_46), .val (.ref b51), .val (.int 0)] [(.int 0), (.ref a_2), (.ref x_46)])) rfl rfl (hb hby own_d16_105) _ k) ?_
  show own_Go _ _ _ _ T61 (mkF m 106 #[.val (.ref a_1), .val (.ref a_2), .val (.ref a_3), .val (.int 1), .val (.ref a_5), .val (.ref x_46), .val (.ref b51), .val (.int 0)] [(.int 1), (.ref x_46)])
  have sd65 : ∀ target, Steps p.tables e below (T61.setTop (mkF m 107 #[.val (.ref a_1), .val (.ref a_2), .val (.ref a_3), .val (.int 1), .val (.ref a_5), .val (.ref x_46), .val (.ref b51), .val (.int 0)] [(.int 1), (.ref x_46), (.int 1), (.ref x_46)])) target → Steps p.tables e below (T61.setTop (mkF m 106 #[.val (.ref a_1), .val (.ref a_2), .val (.ref a_3), .val (.int 1), .val (.ref a_5), .val (.ref x_46), .val (.ref b51), .val (.int 0)] [(.int 1), (.ref x_46)])) target := fun target kk => by
    jvm_step X61.here [X61.here.top, hx, (hb hby own_d16_106), Value.category]
    exact kk
  refine own_go (fun _ k => sd65 _ k) ?_
  show own_Go _ _ _ _ T61 (mkF m 107 #[.val (.ref a_1), .val (.ref a_2), .val (.ref a_3), .val (.int 1), .val (.ref a_5), .val (.ref x_46), .val (.ref b51), .val (.int 0)] [(.int 1), (.ref x_46), (.int 1), (.ref x_46)])
  have f66 := (f56.other W61 (own_ne (by omega)))
  obtain ⟨q67, c67, R67, s67, t67⟩ := id f66
  have hin67 : ¬ ((1 : Int32) < 0 ∨ c67.slots.size ≤ ((1 : Int32)).toNatClampNeg) := inb_of s67 ⟨by decide, by decide⟩
  have u67 : c67.slots[((1 : Int32)).toNatClampNeg]? = some (.int 0) := own_at (k := 1) t67 s67 hin67 (by decide) (rfl)
  refine own_go (fun _ k => X61.iaload hx (j := (1 : Int32)) (v := (.int 0)) (by rw [e61]; exact R67.1) (State.isArrayOf_alike hZ.alike R67.2.1) R67.2.2 hin67 u67 (g := (mkF m 107 #[.val (.ref a_1), .val (.ref a_2), .val (.ref a_3), .val (.int 1), .val (.ref a_5), .val (.ref x_46), .val (.ref b51), .val (.int 0)] [(.int 1), (.ref x_46), (.int 1), (.ref x_46)])) rfl rfl (hb hby own_d16_107) _ k) ?_
  show own_Go _ _ _ _ T61 (mkF m 108 #[.val (.ref a_1), .val (.ref a_2), .val (.ref a_3), .val (.int 1), .val (.ref a_5), .val (.ref x_46), .val (.ref b51), .val (.int 0)] [(.int 0), (.int 1), (.ref x_46)])
  refine own_go (fun _ k => XS.iconst X61.here hx rfl (hb hby own_d16_108) (XS.iadd X61.here hx rfl (hb hby own_d16_109) rfl k)) ?_
  obtain ⟨q68, c68, R68, s68, t68⟩ := id f66
  have hin68 : ¬ ((1 : Int32) < 0 ∨ c68.slots.size ≤ ((1 : Int32)).toNatClampNeg) := inb_of s68 ⟨by decide, by decide⟩
  obtain ⟨T69, h69, X69, e69, W69, st69⟩ := stI X61 hx hZ e61 R68 (j := (1 : Int32)) hin68 (g := (mkF m 110 #[.val (.ref a_1), .val (.ref a_2), .val (.ref a_3), .val (.int 1), .val (.ref a_5), .val (.ref x_46), .val (.ref b51), .val (.int 0)] [(.int 1), (.int 1), (.ref x_46)])) rfl rfl (hb hby own_d16_110)
  have V69 : own_AV Z h69 x_46 .int 3 (own_upd (own_upd (own_upd (own_upd (fun _ => (.int 0)) 0 (.int 0)) 1 (.int 0)) 2 (.int 1)) 1 (.int 1)) := own_AV.set (k := 1) f66 W69 (by decide)
  have z70 := W69.size
  have K69 : Keep h0 h69 [a_5] := K61.wr W69 (Or.inr (by omega))
  have N69 := Fr.snoc X69 N61 (by omega : n0 ≤ x_46)
  refine own_go (fun _ k => st69 _ k) ?_
  show own_Go _ _ _ _ T69 (mkF m 111 #[.val (.ref a_1), .val (.ref a_2), .val (.ref a_3), .val (.int 1), .val (.ref a_5), .val (.ref x_46), .val (.ref b51), .val (.int 0)] [])
  refine own_go (fun _ k => XS.iinc X69.here hx rfl (hb hby own_d16_111) rfl (l' := #[.val (.ref a_1), .val (.ref a_2), .val (.ref a_3), .val (.int 1), .val (.ref a_5), .val (.ref x_46), .val (.ref b51), .val (.int 1)]) rfl (XS.goto X69.here hx rfl (pc0 := 114) (pc' := 80) rfl (hb hby own_d16_114) (by decide) (by decide) (XS.iload X69.here hx rfl (hb hby own_d16_80) rfl (XS.iloadN X69.here hx rfl (hb hby own_d16_82) rfl k)))) ?_
  show own_Go _ _ _ _ T69 (mkF m 83 #[.val (.ref a_1), .val (.ref a_2), .val (.ref a_3), .val (.int 1), .val (.ref a_5), .val (.ref x_46), .val (.ref b51), .val (.int 1)] [(.int 1), (.int 1)])
  have hc71 : ¬ ((1 : Int32) < (1 : Int32)) := by decide
  refine own_go (fun _ k => XS.icmpYes X69.here hx rfl (pc0 := 83) (pc' := 117) rfl (hb hby own_d16_83) rfl (Jvm.Free.XT.ii_ge_t hc71) (by decide) (by decide) (XS.aload X69.here hx rfl (hb hby own_d16_117) rfl rfl k)) ?_
  show own_Go _ _ _ _ T69 (mkF m 119 #[.val (.ref a_1), .val (.ref a_2), .val (.ref a_3), .val (.int 1), .val (.ref a_5), .val (.ref x_46), .val (.ref b51), .val (.int 1)] [(.ref b51)])
  obtain ⟨fs, hr, hrun, hended, hW, hsame⟩ := X69.leave (v := some (.ref b51)) (fun h => by rw [Bd.returns] at h; cases h)
  refine ⟨_, _, retOut X69 hx Bd.returns rfl (Or.inr (Or.inr (Or.inr (Or.inr ⟨rfl, rfl, rfl⟩)))) (hb hby own_d16_119) hr, hrun, hended, _, _, rfl, ?_, ⟨_, rfl⟩, hW, hsame.mono (by rw [y45]; decide) (by rw [z45]; decide)⟩
  show own_Q16_s2 Z a_1 a_2 a_3 a_5 h0 n0 _ T69.heap _
  rw [e69]
  have f73 := ((((V39.keep K45q nin0).ext E51).other W61 (own_ne (by omega))).other W69 (own_ne (by omega)))
  have f74 := (V61.other W69 (own_ne (by omega)))
  exact ⟨b51, rfl, N69, K69, f73, f74, (by omega)⟩
theorem own_d10_0 : decode prog_6_method_17_code 0 = .ok (.aload_n 0, 1) := by decide +kernel
theorem own_d10_1 : decode prog_6_method_17_code 1 = .ok (.getfield 19, 3) := by decide +kernel
theorem own_d10_4 : decode prog_6_method_17_code 4 = .ok (.ifnull 4, 3) := by decide +kernel
theorem own_d10_8 : decode prog_6_method_17_code 8 = .ok (.aload_n 0, 1) := by decide +kernel
theorem own_d10_9 : decode prog_6_method_17_code 9 = .ok (.getfield 13, 3) := by decide +kernel
theorem own_d10_12 : decode prog_6_method_17_code 12 = .ok (.aload_n 0, 1) := by decide +kernel
theorem own_d10_13 : decode prog_6_method_17_code 13 = .ok (.getfield 30, 3) := by decide +kernel
theorem own_d10_16 : decode prog_6_method_17_code 16 = .ok (.iaload, 1) := by decide +kernel
theorem own_d10_17 : decode prog_6_method_17_code 17 = .ok (.istore_n 1, 1) := by decide +kernel
theorem own_d10_18 : decode prog_6_method_17_code 18 = .ok (.iload_n 1, 1) := by decide +kernel
theorem own_d10_19 : decode prog_6_method_17_code 19 = .ok (.newarray .int, 2) := by decide +kernel
theorem own_d10_21 : decode prog_6_method_17_code 21 = .ok (.astore_n 2, 1) := by decide +kernel
theorem own_d10_22 : decode prog_6_method_17_code 22 = .ok (.iconst 0, 1) := by decide +kernel
theorem own_d10_23 : decode prog_6_method_17_code 23 = .ok (.istore_n 3, 1) := by decide +kernel
theorem own_d10_24 : decode prog_6_method_17_code 24 = .ok (.iload_n 3, 1) := by decide +kernel
theorem own_d10_25 : decode prog_6_method_17_code 25 = .ok (.aload_n 0, 1) := by decide +kernel
theorem own_d10_26 : decode prog_6_method_17_code 26 = .ok (.getfield 30, 3) := by decide +kernel
theorem own_d10_29 : decode prog_6_method_17_code 29 = .ok (.if_icmp .ge 28, 3) := by decide +kernel
theorem own_d10_32 : decode prog_6_method_17_code 32 = .ok (.aload_n 2, 1) := by decide +kernel
theorem own_d10_33 : decode prog_6_method_17_code 33 = .ok (.aload_n 0, 1) := by decide +kernel
theorem own_d10_34 : decode prog_6_method_17_code 34 = .ok (.getfield 13, 3) := by decide +kernel
theorem own_d10_37 : decode prog_6_method_17_code 37 = .ok (.iload_n 3, 1) := by decide +kernel
theorem own_d10_38 : decode prog_6_method_17_code 38 = .ok (.iaload, 1) := by decide +kernel
theorem own_d10_39 : decode prog_6_method_17_code 39 = .ok (.aload_n 0, 1) := by decide +kernel
theorem own_d10_40 : decode prog_6_method_17_code 40 = .ok (.getfield 13, 3) := by decide +kernel
theorem own_d10_43 : decode prog_6_method_17_code 43 = .ok (.iload_n 3, 1) := by decide +kernel
theorem own_d10_44 : decode prog_6_method_17_code 44 = .ok (.iconst 1, 1) := by decide +kernel
theorem own_d10_45 : decode prog_6_method_17_code 45 = .ok (.iadd, 1) := by decide +kernel
theorem own_d10_46 : decode prog_6_method_17_code 46 = .ok (.iaload, 1) := by decide +kernel
theorem own_d10_47 : decode prog_6_method_17_code 47 = .ok (.iload_n 3, 1) := by decide +kernel
theorem own_d10_48 : decode prog_6_method_17_code 48 = .ok (.invokestatic 195, 3) := by decide +kernel
theorem own_d10_51 : decode prog_6_method_17_code 51 = .ok (.iinc 3 1, 3) := by decide +kernel
theorem own_d10_54 : decode prog_6_method_17_code 54 = .ok (.goto (-30), 3) := by decide +kernel
theorem own_d10_57 : decode prog_6_method_17_code 57 = .ok (.aload_n 0, 1) := by decide +kernel
theorem own_d10_58 : decode prog_6_method_17_code 58 = .ok (.getfield 30, 3) := by decide +kernel
theorem own_d10_61 : decode prog_6_method_17_code 61 = .ok (.newarray .int, 2) := by decide +kernel
theorem own_d10_63 : decode prog_6_method_17_code 63 = .ok (.astore_n 3, 1) := by decide +kernel
theorem own_d10_64 : decode prog_6_method_17_code 64 = .ok (.aload_n 3, 1) := by decide +kernel
theorem own_d10_65 : decode prog_6_method_17_code 65 = .ok (.invokedynamic 199, 5) := by decide +kernel
theorem own_d10_70 : decode prog_6_method_17_code 70 = .ok (.invokestatic 203, 3) := by decide +kernel
theorem own_d10_73 : decode prog_6_method_17_code 73 = .ok (.aload_n 0, 1) := by decide +kernel
theorem own_d10_74 : decode prog_6_method_17_code 74 = .ok (.getfield 22, 3) := by decide +kernel
theorem own_d10_77 : decode prog_6_method_17_code 77 = .ok (.iconst 1, 1) := by decide +kernel
theorem own_d10_78 : decode prog_6_method_17_code 78 = .ok (.iadd, 1) := by decide +kernel
theorem own_d10_79 : decode prog_6_method_17_code 79 = .ok (.newarray .int, 2) := by decide +kernel
theorem own_d10_81 : decode prog_6_method_17_code 81 = .ok (.astore 4, 2) := by decide +kernel
theorem own_d10_83 : decode prog_6_method_17_code 83 = .ok (.aload_n 0, 1) := by decide +kernel
theorem own_d10_84 : decode prog_6_method_17_code 84 = .ok (.aload_n 0, 1) := by decide +kernel
theorem own_d10_85 : decode prog_6_method_17_code 85 = .ok (.getfield 16, 3) := by decide +kernel
theorem own_d10_88 : decode prog_6_method_17_code 88 = .ok (.aload_n 2, 1) := by decide +kernel
theorem own_d10_89 : decode prog_6_method_17_code 89 = .ok (.iload_n 1, 1) := by decide +kernel
theorem own_d10_90 : decode prog_6_method_17_code 90 = .ok (.aload 4, 2) := by decide +kernel
theorem own_d10_92 : decode prog_6_method_17_code 92 = .ok (.invokevirtual 207, 3) := by decide +kernel
theorem own_d10_95 : decode prog_6_method_17_code 95 = .ok (.astore 5, 2) := by decide +kernel
theorem own_d10_97 : decode prog_6_method_17_code 97 = .ok (.aload_n 0, 1) := by decide +kernel
theorem own_d10_98 : decode prog_6_method_17_code 98 = .ok (.aload_n 0, 1) := by decide +kernel
theorem own_d10_99 : decode prog_6_method_17_code 99 = .ok (.getfield 22, 3) := by decide +kernel
theorem own_d10_102 : decode prog_6_method_17_code 102 = .ok (.iconst 1, 1) := by decide +kernel
theorem own_d10_103 : decode prog_6_method_17_code 103 = .ok (.iadd, 1) := by decide +kernel
theorem own_d10_104 : decode prog_6_method_17_code 104 = .ok (.newarray .int, 2) := by decide +kernel
theorem own_d10_106 : decode prog_6_method_17_code 106 = .ok (.putfield 94, 3) := by decide +kernel
theorem own_d10_109 : decode prog_6_method_17_code 109 = .ok (.aload_n 0, 1) := by decide +kernel
theorem own_d10_110 : decode prog_6_method_17_code 110 = .ok (.aload_n 0, 1) := by decide +kernel
theorem own_d10_111 : decode prog_6_method_17_code 111 = .ok (.aload_n 0, 1) := by decide +kernel
theorem own_d10_112 : decode prog_6_method_17_code 112 = .ok (.getfield 9, 3) := by decide +kernel
theorem own_d10_115 : decode prog_6_method_17_code 115 = .ok (.aload_n 3, 1) := by decide +kernel
theorem own_d10_116 : decode prog_6_method_17_code 116 = .ok (.aload_n 0, 1) := by decide +kernel
theorem own_d10_117 : decode prog_6_method_17_code 117 = .ok (.getfield 30, 3) := by decide +kernel
theorem own_d10_120 : decode prog_6_method_17_code 120 = .ok (.aload_n 0, 1) := by decide +kernel
theorem own_d10_121 : decode prog_6_method_17_code 121 = .ok (.getfield 94, 3) := by decide +kernel
theorem own_d10_124 : decode prog_6_method_17_code 124 = .ok (.invokevirtual 207, 3) := by decide +kernel
theorem own_d10_127 : decode prog_6_method_17_code 127 = .ok (.putfield 97, 3) := by decide +kernel
theorem own_d10_130 : decode prog_6_method_17_code 130 = .ok (.aload_n 0, 1) := by decide +kernel
theorem own_d10_131 : decode prog_6_method_17_code 131 = .ok (.aload 4, 2) := by decide +kernel
theorem own_d10_133 : decode prog_6_method_17_code 133 = .ok (.putfield 175, 3) := by decide +kernel
theorem own_d10_136 : decode prog_6_method_17_code 136 = .ok (.aload_n 0, 1) := by decide +kernel
theorem own_d10_137 : decode prog_6_method_17_code 137 = .ok (.aload 5, 2) := by decide +kernel
theorem own_d10_139 : decode prog_6_method_17_code 139 = .ok (.putfield 19, 3) := by decide +kernel
theorem own_d10_142 : decode prog_6_method_17_code 142 = .ok (.return_, 1) := by decide +kernel
theorem own_ef_own_rm10_s1 (m : MethodId) (x0 : Addr) : entryFrame m #[(.ref x0)] 6 = mkF m 0 #[.val (.ref x0), .unset, .unset, .unset, .unset, .unset] [] := by first | (simp [entryFrame, mkF, argsToLocals, Value.category]; done) | rfl
def own_Q10_s1 (Z : State) (a_1 : Addr) (g_lam : Addr) (ob0 : Addr) (ob1 : Addr) (ob2 : Addr) (u_0 : Value) (u_1 : Value) (u_2 : Value) (h0 : Heap) (n0 : Nat) (v : Option Value) (h : Heap) (L : List Loc) : Prop := ∃ (x_0 : Addr) (x_1 : Addr) (x_2 : Addr) (x_3 : Addr), v = none ∧ Fr n0 L ∧ Keep h0 h [a_1] ∧ Exa Z h a_1 own_N1 ∧ Fld Z h a_1 own_N1 "bodies" "[I" (.ref ob2) ∧ Fld Z h a_1 own_N1 "bodyStarts" "[I" (.ref ob1) ∧ Fld Z h a_1 own_N1 "clauseCount" "I" (.int 1) ∧ Fld Z h a_1 own_N1 "derivationStarts" "[I" (.ref x_0) ∧ Fld Z h a_1 own_N1 "derivations" "[I" (.ref x_1) ∧ Fld Z h a_1 own_N1 "heads" "[I" (.ref ob0) ∧ Fld Z h a_1 own_N1 "occurrenceStarts" "[I" (.ref x_2) ∧ Fld Z h a_1 own_N1 "occurrences" "[I" (.ref x_3) ∧ Fld Z h a_1 own_N1 "variableCount" "I" (.int 3) ∧ own_AV Z h x_0 .int 4 (own_upd (own_upd (own_upd (own_upd (fun _ => (.int 0)) 2 (.int 1)) 1 (.int 0)) 2 (.int 1)) 3 (.int 1)) ∧ own_AV Z h x_1 .int 1 (own_upd (fun _ => (.int 0)) 0 (.int 0)) ∧ own_AV Z h x_2 .int 4 (own_upd (own_upd (own_upd (own_upd (fun _ => (.int 0)) 1 (.int 1)) 1 (.int 1)) 2 (.int 1)) 3 (.int 1)) ∧ own_AV Z h x_3 .int 1 (own_upd (fun _ => (.int 0)) 0 (.int 0)) ∧ (h0.size ≤ x_0) ∧ (h0.size ≤ x_1) ∧ (h0.size ≤ x_2) ∧ (h0.size ≤ x_3) ∧ (own_lts [x_2, x_3, x_0, x_1])
set_option maxRecDepth 65536 in
set_option maxHeartbeats 40000000 in
theorem own_rm10_s1 (l : Launch) (Z : State) (a0 : Array Value) (hw : ∀ d ∈ tables_1, d.before a0 Z = true) (ws : List Jvm.Cond) (a_1 : Addr) (g_lam : Addr) (ob0 : Addr) (ob1 : Addr) (ob2 : Addr) (u_0 : Value) (u_1 : Value) (u_2 : Value) (h0 : Heap) (n0 : Nat) (Z0 : n0 ≤ h0.size) (pr_A_ob0 : own_AV Z h0 ob0 .int 64 (own_upd (fun _ => (.int 0)) 0 (.int 1))) (pr_A_ob1 : own_AV Z h0 ob1 .int 65 (own_upd (fun _ => (.int 0)) 1 (.int 1))) (pr_A_ob2 : own_AV Z h0 ob2 .int 64 (own_upd (fun _ => (.int 0)) 0 (.int 0))) (pr_E_a_1 : Exa Z h0 a_1 own_N1) (pr_F_a_1_bodies : Fld Z h0 a_1 own_N1 "bodies" "[I" (.ref ob2)) (pr_F_a_1_bodyStarts : Fld Z h0 a_1 own_N1 "bodyStarts" "[I" (.ref ob1)) (pr_F_a_1_clauseCount : Fld Z h0 a_1 own_N1 "clauseCount" "I" (.int 1)) (pr_F_a_1_derivationStarts : Fld Z h0 a_1 own_N1 "derivationStarts" "[I" u_0) (pr_F_a_1_derivations : Fld Z h0 a_1 own_N1 "derivations" "[I" u_1) (pr_F_a_1_heads : Fld Z h0 a_1 own_N1 "heads" "[I" (.ref ob0)) (pr_F_a_1_occurrenceStarts : Fld Z h0 a_1 own_N1 "occurrenceStarts" "[I" u_2) (pr_F_a_1_occurrences : Fld Z h0 a_1 own_N1 "occurrences" "[I" .null) (pr_F_a_1_variableCount : Fld Z h0 a_1 own_N1 "variableCount" "I" (.int 3)) (pr_M_g_lam : own_LM Z h0 g_lam) (ho_ : own_lts [a_1, ob0, ob1, ob2]) (ho_g : own_lts [g_lam, n0]) (gw_a_1 : n0 ≤ a_1) :
    MetFree l (⟨own_N1, "index", "()V"⟩ : MethodName) (head1 (Jvm.Cond.code (⟨own_N1, "index", "()V"⟩ : MethodName) prog_6_method_17_code 6 none :: ws) ({ frames := 3, cells := 8, slots := 18, locals := 3100 } : Room)) (fun a U => a = #[(.ref a_1)] ∧ Z.Warmed39 U.vm ∧ U.heap = h0) (fun _ _ _ _ _ => True) (fun _ U o U' => ∃ v L, o = .returned v ∧ own_Q10_s1 Z a_1 g_lam ob0 ob1 ob2 u_0 u_1 u_2 h0 n0 v U'.heap L ∧ FrameEnd U o U' L ({ frames := 3, cells := 8, slots := 18, locals := 3100 } : Room).cells ({ frames := 3, cells := 8, slots := 18, locals := 3100 } : Room).slots) := by
  refine MetFree.of_bodySF (plainFor_of_name own_pn0) hisR ?_
  intro p e s m args below meth c s₁ Bd hml0 hP hK
  obtain ⟨rfl, hZ, hh⟩ := hP
  have hx := Bd.exec
  have hby := Bd.bytes
  have hml : c.maxLocals = 6 := hml0
  have hown : s.vm.findClass own_N1 = some m.cls := findClass_of_methodNamed Bd.named
  have hnm := (name_of_methodNamed Bd.named Bd.method).1
  have X0 : Stand p l e ({ frames := 3, cells := 8, slots := 18, locals := 3100 } : Room) s m #[(.ref a_1)] below meth c s₁ [] 0 0 := Stand.of_body Bd
  have e0 : s₁.heap = h0 := by rw [← hh, Bd.state]; rfl
  have N0 := Fr.nil n0
  have z0 : n0 ≤ h0.size := Z0
  have z1 := own_lt pr_A_ob0.lt
  have z2 := own_lt pr_A_ob1.lt
  have z3 := own_lt pr_A_ob2.lt
  have z4 := own_lt pr_E_a_1.lt
  have z5 := own_lt pr_F_a_1_bodies.lt
  have z6 := own_lt pr_F_a_1_bodyStarts.lt
  have z7 := own_lt pr_F_a_1_clauseCount.lt
  have z8 := own_lt pr_F_a_1_derivationStarts.lt
  have z9 := own_lt pr_F_a_1_derivations.lt
  have z10 := own_lt pr_F_a_1_heads.lt
  have z11 := own_lt pr_F_a_1_occurrenceStarts.lt
  have z12 := own_lt pr_F_a_1_occurrences.lt
  have z13 := own_lt pr_F_a_1_variableCount.lt
  have ho14 := ho_
  simp only [own_lts, and_true] at ho14
  have ho15 := ho_g
  simp only [own_lts, and_true] at ho15
  have K0 : Keep h0 h0 [a_1] := Keep.refl h0 _
  show own_Go p.tables e below (fun t o => t.status = .running ∧ Ended t below o ∧ ∃ v L, o = .returned v ∧ own_Q10_s1 Z a_1 g_lam ob0 ob1 ob2 u_0 u_1 u_2 h0 n0 v t.heap L ∧ FrameEnd s o t L ({ frames := 3, cells := 8, slots := 18, locals := 3100 } : Room).cells ({ frames := 3, cells := 8, slots := 18, locals := 3100 } : Room).slots) s₁ (entryFrame m #[(.ref a_1)] 6)
  rw [own_ef_own_rm10_s1 m a_1]
  show own_Go _ _ _ _ s₁ (mkF m 0 #[.val (.ref a_1), .unset, .unset, .unset, .unset, .unset] [])
  refine own_go (fun _ k => XS.aloadN X0.here hx rfl (hb hby own_d10_0) rfl rfl k) ?_
  obtain ⟨T16, X16, e16, st16⟩ := getF X0 hx hZ hown (host := "") (Or.inl (hw _ (List.mem_of_getElem? (i := 21) rfl))) Via.refl e0 pr_F_a_1_occurrences (g := (mkF m 1 #[.val (.ref a_1), .unset, .unset, .unset, .unset, .unset] [(.ref a_1)])) rfl rfl (hb hby own_d10_1)
  refine own_go (fun _ k => st16 _ k) ?_
  show own_Go _ _ _ _ T16 (mkF m 4 #[.val (.ref a_1), .unset, .unset, .unset, .unset, .unset] [.null])
  refine own_go (fun _ k => XS.ifnullYes X16.here hx rfl (pc0 := 4) (pc' := 8) rfl (hb hby own_d10_4) rfl (by decide) (by decide) (XS.aloadN X16.here hx rfl (hb hby own_d10_8) rfl rfl k)) ?_
  obtain ⟨T17, X17, e17, st17⟩ := getF X16 hx hZ hown (host := "") (Or.inl (own_w12 hw)) Via.refl e16 pr_F_a_1_bodyStarts (g := (mkF m 9 #[.val (.ref a_1), .unset, .unset, .unset, .unset, .unset] [(.ref a_1)])) rfl rfl (hb hby own_d10_9)
  refine own_go (fun _ k => st17 _ k) ?_
  show own_Go _ _ _ _ T17 (mkF m 12 #[.val (.ref a_1), .unset, .unset, .unset, .unset, .unset] [(.ref ob1)])
  refine own_go (fun _ k => XS.aloadN X17.here hx rfl (hb hby own_d10_12) rfl rfl k) ?_
  obtain ⟨T18, X18, e18, st18⟩ := getF X17 hx hZ hown (host := "") (Or.inl (own_w46 hw)) Via.refl e17 pr_F_a_1_clauseCount (g := (mkF m 13 #[.val (.ref a_1), .unset, .unset, .unset, .unset, .unset] [(.ref a_1), (.ref ob1)])) rfl rfl (hb hby own_d10_13)
  refine own_go (fun _ k => st18 _ k) ?_
  show own_Go _ _ _ _ T18 (mkF m 16 #[.val (.ref a_1), .unset, .unset, .unset, .unset, .unset] [(.int 1), (.ref ob1)])
  obtain ⟨q19, c19, R19, s19, t19⟩ := id pr_A_ob1
  have hin19 : ¬ ((1 : Int32) < 0 ∨ c19.slots.size ≤ ((1 : Int32)).toNatClampNeg) := inb_of s19 ⟨by decide, by decide⟩
  have u19 : c19.slots[((1 : Int32)).toNatClampNeg]? = some (.int 1) := own_at (k := 1) t19 s19 hin19 (by decide) (rfl)
  refine own_go (fun _ k => X18.iaload hx (j := (1 : Int32)) (v := (.int 1)) (by rw [e18]; exact R19.1) (State.isArrayOf_alike hZ.alike R19.2.1) R19.2.2 hin19 u19 (g := (mkF m 16 #[.val (.ref a_1), .unset, .unset, .unset, .unset, .unset] [(.int 1), (.ref ob1)])) rfl rfl (hb hby own_d10_16) _ k) ?_
  show own_Go _ _ _ _ T18 (mkF m 17 #[.val (.ref a_1), .unset, .unset, .unset, .unset, .unset] [(.int 1)])
  refine own_go (fun _ k => XS.istoreN X18.here hx rfl (hb hby own_d10_17) rfl (l' := #[.val (.ref a_1), .val (.int 1), .unset, .unset, .unset, .unset]) rfl (XS.iloadN X18.here hx rfl (hb hby own_d10_18) rfl k)) ?_
  obtain ⟨T20, h20, k20, X20, e20, E20, A20, st20⟩ := newP X18 hx hZ (hw _ (List.mem_of_getElem? (i := 9) rfl)) e18 (g := (mkF m 19 #[.val (.ref a_1), .val (.int 1), .unset, .unset, .unset, .unset] [(.int 1)])) rfl (hb hby own_d10_19) rfl (by decide) (cap := 1) (by decide) (by decide) (by decide) (by decide)
  obtain ⟨b20, g20⟩ : ∃ z, z = h0.size := ⟨_, rfl⟩
  rw [← g20] at A20 st20
  have z21 := E20.1
  have lt_b20 := own_lt A20.lt
  have K20 : Keep h0 h20 [a_1] := K0.ext E20
  have V_b20 : own_AV Z h20 b20 .int 1 (fun _ => (.int 0)) := own_AV.new A20 (by decide)
  refine own_go (fun _ k => st20 _ k) ?_
  show own_Go _ _ _ _ T20 (mkF m 21 #[.val (.ref a_1), .val (.int 1), .unset, .unset, .unset, .unset] [(.ref b20)])
  refine own_go (fun _ k => XS.astoreN X20.here hx rfl (hb hby own_d10_21) rfl rfl (l' := #[.val (.ref a_1), .val (.int 1), .val (.ref b20), .unset, .unset, .unset]) rfl (XS.iconst X20.here hx rfl (hb hby own_d10_22) (XS.istoreN X20.here hx rfl (hb hby own_d10_23) rfl (l' := #[.val (.ref a_1), .val (.int 1), .val (.ref b20), .val (.int 0), .unset, .unset]) rfl (XS.iloadN X20.here hx rfl (hb hby own_d10_24) rfl k)))) ?_
  show own_Go _ _ _ _ T20 (mkF m 25 #[.val (.ref a_1), .val (.int 1), .val (.ref b20), .val (.int 0), .unset, .unset] [(.int 0)])
  refine own_go (fun _ k => XS.aloadN X20.here hx rfl (hb hby own_d10_25) rfl rfl k) ?_
  have f22 := (pr_F_a_1_clauseCount.ext E20)
  obtain ⟨T23, X23, e23, st23⟩ := getF X20 hx hZ hown (host := "") (Or.inl (own_w46 hw)) Via.refl e20 f22 (g := (mkF m 26 #[.val (.ref a_1), .val (.int 1), .val (.ref b20), .val (.int 0), .unset, .unset] [(.ref a_1), (.int 0)])) rfl rfl (hb hby own_d10_26)
  refine own_go (fun _ k => st23 _ k) ?_
  show own_Go _ _ _ _ T23 (mkF m 29 #[.val (.ref a_1), .val (.int 1), .val (.ref b20), .val (.int 0), .unset, .unset] [(.int 1), (.int 0)])
  have hc24 : (0 : Int32) < (1 : Int32) := by decide
  refine own_go (fun _ k => XS.icmpNo X23.here hx rfl (hb hby own_d10_29) rfl (Jvm.Free.XT.ii_ge_f hc24) (XS.aloadN X23.here hx rfl (hb hby own_d10_32) rfl rfl (XS.aloadN X23.here hx rfl (hb hby own_d10_33) rfl rfl k))) ?_
  have f25 := (pr_F_a_1_bodyStarts.ext E20)
  obtain ⟨T26, X26, e26, st26⟩ := getF X23 hx hZ hown (host := "") (Or.inl (own_w12 hw)) Via.refl e23 f25 (g := (mkF m 34 #[.val (.ref a_1), .val (.int 1), .val (.ref b20), .val (.int 0), .unset, .unset] [(.ref a_1), (.ref b20)])) rfl rfl (hb hby own_d10_34)
  refine own_go (fun _ k => st26 _ k) ?_
  show own_Go _ _ _ _ T26 (mkF m 37 #[.val (.ref a_1), .val (.int 1), .val (.ref b20), .val (.int 0), .unset, .unset] [(.ref ob1), (.ref b20)])
  refine own_go (fun _ k => XS.iloadN X26.here hx rfl (hb hby own_d10_37) rfl k) ?_
  have f27 := (pr_A_ob1.ext E20)
  obtain ⟨q28, c28, R28, s28, t28⟩ := id f27
  have hin28 : ¬ ((0 : Int32) < 0 ∨ c28.slots.size ≤ ((0 : Int32)).toNatClampNeg) := inb_of s28 ⟨by decide, by decide⟩
  have u28 : c28.slots[((0 : Int32)).toNatClampNeg]? = some (.int 0) := own_at (k := 0) t28 s28 hin28 (by decide) (rfl)
  refine own_go (fun _ k => X26.iaload hx (j := (0 : Int32)) (v := (.int 0)) (by rw [e26]; exact R28.1) (State.isArrayOf_alike hZ.alike R28.2.1) R28.2.2 hin28 u28 (g := (mkF m 38 #[.val (.ref a_1), .val (.int 1), .val (.ref b20), .val (.int 0), .unset, .unset] [(.int 0), (.ref ob1), (.ref b20)])) rfl rfl (hb hby own_d10_38) _ k) ?_
  show own_Go _ _ _ _ T26 (mkF m 39 #[.val (.ref a_1), .val (.int 1), .val (.ref b20), .val (.int 0), .unset, .unset] [(.int 0), (.ref b20)])
  refine own_go (fun _ k => XS.aloadN X26.here hx rfl (hb hby own_d10_39) rfl rfl k) ?_
  obtain ⟨T29, X29, e29, st29⟩ := getF X26 hx hZ hown (host := "") (Or.inl (own_w12 hw)) Via.refl e26 f25 (g := (mkF m 40 #[.val (.ref a_1), .val (.int 1), .val (.ref b20), .val (.int 0), .unset, .unset] [(.ref a_1), (.int 0), (.ref b20)])) rfl rfl (hb hby own_d10_40)
  refine own_go (fun _ k => st29 _ k) ?_
  show own_Go _ _ _ _ T29 (mkF m 43 #[.val (.ref a_1), .val (.int 1), .val (.ref b20), .val (.int 0), .unset, .unset] [(.ref ob1), (.int 0), (.ref b20)])
  refine own_go (fun _ k => XS.iloadN X29.here hx rfl (hb hby own_d10_43) rfl (XS.iconst X29.here hx rfl (hb hby own_d10_44) (XS.iadd X29.here hx rfl (hb hby own_d10_45) rfl k))) ?_
  obtain ⟨q30, c30, R30, s30, t30⟩ := id f27
  have hin30 : ¬ ((1 : Int32) < 0 ∨ c30.slots.size ≤ ((1 : Int32)).toNatClampNeg) := inb_of s30 ⟨by decide, by decide⟩
  have u30 : c30.slots[((1 : Int32)).toNatClampNeg]? = some (.int 1) := own_at (k := 1) t30 s30 hin30 (by decide) (rfl)
  refine own_go (fun _ k => X29.iaload hx (j := (1 : Int32)) (v := (.int 1)) (by rw [e29]; exact R30.1) (State.isArrayOf_alike hZ.alike R30.2.1) R30.2.2 hin30 u30 (g := (mkF m 46 #[.val (.ref a_1), .val (.int 1), .val (.ref b20), .val (.int 0), .unset, .unset] [(.int 1), (.ref ob1), (.int 0), (.ref b20)])) rfl rfl (hb hby own_d10_46) _ k) ?_
  show own_Go _ _ _ _ T29 (mkF m 47 #[.val (.ref a_1), .val (.int 1), .val (.ref b20), .val (.int 0), .unset, .unset] [(.int 1), (.int 0), (.ref b20)])
  refine own_go (fun _ k => XS.iloadN X29.here hx rfl (hb hby own_d10_47) rfl k) ?_
  obtain ⟨_, _, ⟨T31, L31, k31, n31⟩, -, X31, ⟨Lc31, hQ31, l31, y31, z31⟩, st31⟩ := Jvm.LawKit.callS X29 hx (y := (⟨"java/util/Arrays", "fill", "([IIII)V"⟩ : MethodName)) hown (mvT hZ (hw _ (List.mem_of_getElem? (i := 70) rfl))) (mvT hZ (hw _ (List.mem_of_getElem? (i := 71) rfl))) (mvT hZ (own_w72 hw)) (mvT hZ (hw _ (List.mem_of_getElem? (i := 73) rfl))) (by decide) (backOf (W := 0) (own_rm11_s1 l Z a0 hw [] b20  h20 n0 (by omega) V_b20 (by omega)) hZ (hw _ (List.mem_of_getElem? (i := 73) rfl)) (own_w72 hw) (by decide) (by decide)) (g := (mkF m 48 #[.val (.ref a_1), .val (.int 1), .val (.ref b20), .val (.int 0), .unset, .unset] [(.int 0), (.int 1), (.int 0), (.ref b20)])) rfl (by rw [hml]; rfl) (argsL := [(.ref b20), (.int 0), (.int 1), (.int 0)]) (rest := []) (lenOf own_pd6 rfl) rfl (by show 2 * 0 + _ ≤ _; exact Nat.le_of_eq rfl) (hb hby own_d10_48) (fun _ _ => ⟨rfl, e29, (by decide : 1 + 0 ≤ _), (by decide : 1 + 0 ≤ _)⟩)
  dsimp only [Pt.U, Pt.locs, Pt.cells, Pt.slots] at X31 l31 y31 z31 st31 hQ31
  have y31 : k31 = 1 := y31
  have z31 : n31 = 1 := z31
  obtain ⟨rfl, N31q, K31q, f32⟩ := hQ31
  have N31 : Fr n0 L31 := by rw [l31]; exact Fr.app N0 N31q
  have z33 := K31q.1
  have K31 : Keep h0 T31.heap [a_1] := K20.trans K31q (allS (Or.inr (by omega)) all0)
  have z34 := own_lt f32.lt
  refine own_go (fun _ k => st31 _ k) ?_
  show own_Go _ _ _ _ T31 (mkF m 51 #[.val (.ref a_1), .val (.int 1), .val (.ref b20), .val (.int 0), .unset, .unset] [])
  refine own_go (fun _ k => XS.iinc X31.here hx rfl (hb hby own_d10_51) rfl (l' := #[.val (.ref a_1), .val (.int 1), .val (.ref b20), .val (.int 1), .unset, .unset]) rfl (XS.goto X31.here hx rfl (pc0 := 54) (pc' := 24) rfl (hb hby own_d10_54) (by decide) (by decide) (XS.iloadN X31.here hx rfl (hb hby own_d10_24) rfl (XS.aloadN X31.here hx rfl (hb hby own_d10_25) rfl rfl k)))) ?_
  show own_Go _ _ _ _ T31 (mkF m 26 #[.val (.ref a_1), .val (.int 1), .val (.ref b20), .val (.int 1), .unset, .unset] [(.ref a_1), (.int 1)])
  have f35 := (f22.keep K31q (ninS (own_ne (by omega)) nin0))
  obtain ⟨T36, X36, e36, st36⟩ := getF X31 hx hZ hown (host := "") (Or.inl (own_w46 hw)) Via.refl rfl f35 (g := (mkF m 26 #[.val (.ref a_1), .val (.int 1), .val (.ref b20), .val (.int 1), .unset, .unset] [(.ref a_1), (.int 1)])) rfl rfl (hb hby own_d10_26)
  refine own_go (fun _ k => st36 _ k) ?_
  show own_Go _ _ _ _ T36 (mkF m 29 #[.val (.ref a_1), .val (.int 1), .val (.ref b20), .val (.int 1), .unset, .unset] [(.int 1), (.int 1)])
  have hc37 : ¬ ((1 : Int32) < (1 : Int32)) := by decide
  refine own_go (fun _ k => XS.icmpYes X36.here hx rfl (pc0 := 29) (pc' := 57) rfl (hb hby own_d10_29) rfl (Jvm.Free.XT.ii_ge_t hc37) (by decide) (by decide) (XS.aloadN X36.here hx rfl (hb hby own_d10_57) rfl rfl k)) ?_
  obtain ⟨T38, X38, e38, st38⟩ := getF X36 hx hZ hown (host := "") (Or.inl (own_w46 hw)) Via.refl e36 f35 (g := (mkF m 58 #[.val (.ref a_1), .val (.int 1), .val (.ref b20), .val (.int 1), .unset, .unset] [(.ref a_1)])) rfl rfl (hb hby own_d10_58)
  refine own_go (fun _ k => st38 _ k) ?_
  show own_Go _ _ _ _ T38 (mkF m 61 #[.val (.ref a_1), .val (.int 1), .val (.ref b20), .val (.int 1), .unset, .unset] [(.int 1)])
  obtain ⟨T39, h39, k39, X39, e39, E39, A39, st39⟩ := newP X38 hx hZ (hw _ (List.mem_of_getElem? (i := 9) rfl)) e38 (g := (mkF m 61 #[.val (.ref a_1), .val (.int 1), .val (.ref b20), .val (.int 1), .unset, .unset] [(.int 1)])) rfl (hb hby own_d10_61) rfl (by decide) (cap := 1) (by decide) (by decide) (by rw [y31]; decide) (by rw [z31]; decide)
  obtain ⟨b39, g39⟩ : ∃ z, z = T31.heap.size := ⟨_, rfl⟩
  rw [← g39] at A39 st39
  have z40 := E39.1
  have lt_b39 := own_lt A39.lt
  have K39 : Keep h0 h39 [a_1] := K31.ext E39
  have V_b39 : own_AV Z h39 b39 .int 1 (fun _ => (.int 0)) := own_AV.new A39 (by decide)
  refine own_go (fun _ k => st39 _ k) ?_
  show own_Go _ _ _ _ T39 (mkF m 63 #[.val (.ref a_1), .val (.int 1), .val (.ref b20), .val (.int 1), .unset, .unset] [(.ref b39)])
  refine own_go (fun _ k => XS.astoreN X39.here hx rfl (hb hby own_d10_63) rfl rfl (l' := #[.val (.ref a_1), .val (.int 1), .val (.ref b20), .val (.ref b39), .unset, .unset]) rfl (XS.aloadN X39.here hx rfl (hb hby own_d10_64) rfl rfl k)) ?_
  have f41 := (((pr_M_g_lam.ext E20).keep K31q).ext E39)
  refine own_go (fun _ k => own_indy X39 hx hZ Bd.named f41 (g := (mkF m 65 #[.val (.ref a_1), .val (.int 1), .val (.ref b20), .val (.ref b39), .unset, .unset] [(.ref b39)])) rfl rfl (by rw [hml]; rfl) (hb hby own_d10_65) (W := 1) (by show 2 * 0 + _ ≤ _; exact Nat.le_of_eq rfl) (by decide) k) ?_
  show own_Go _ _ _ _ T39 (mkF m 70 #[.val (.ref a_1), .val (.int 1), .val (.ref b20), .val (.ref b39), .unset, .unset] [(.ref g_lam), (.ref b39)])
  obtain ⟨_, _, ⟨T42, L42, k42, n42⟩, -, X42, ⟨Lc42, hQ42, l42, y42, z42⟩, st42⟩ := Jvm.LawKit.callS X39 hx (y := (⟨"java/util/Arrays", "setAll", "([ILjava/util/function/IntUnaryOperator;)V"⟩ : MethodName)) hown (mvT hZ (hw _ (List.mem_of_getElem? (i := 80) rfl))) (mvT hZ (hw _ (List.mem_of_getElem? (i := 81) rfl))) (mvT hZ (own_w72 hw)) (mvT hZ (hw _ (List.mem_of_getElem? (i := 82) rfl))) (by decide) (backOf (W := 0) (own_rm13_s1 l Z a0 hw [] b39 g_lam  h39 n0 (by omega) V_b39 f41 (by simp only [own_lts, and_true]; omega) (by omega)) hZ (hw _ (List.mem_of_getElem? (i := 82) rfl)) (own_w72 hw) (by decide) (by decide)) (g := (mkF m 70 #[.val (.ref a_1), .val (.int 1), .val (.ref b20), .val (.ref b39), .unset, .unset] [(.ref g_lam), (.ref b39)])) rfl (by rw [hml]; rfl) (argsL := [(.ref b39), (.ref g_lam)]) (rest := []) (lenOf own_pd8 rfl) rfl (by show 2 * 0 + _ ≤ _; exact Nat.le_of_eq rfl) (hb hby own_d10_70) (fun _ _ => ⟨rfl, e39, (by show k31 + 1 + _ ≤ _; rw [y31]; decide), (by show n31 + 1 + _ ≤ _; rw [z31]; decide)⟩)
  dsimp only [Pt.U, Pt.locs, Pt.cells, Pt.slots] at X42 l42 y42 z42 st42 hQ42
  have y42 : k42 = 2 := own_addeq y42 (congrArg (fun q => q + 1) y31) rfl
  have z42 : n42 = 2 := own_addeq z42 (congrArg (fun q => q + 1) z31) rfl
  obtain ⟨rfl, N42q, K42q, f43⟩ := hQ42
  have N42 : Fr n0 L42 := by rw [l42]; exact Fr.app N31 N42q
  have z44 := K42q.1
  have K42 : Keep h0 T42.heap [a_1] := K39.trans K42q (allS (Or.inr (by omega)) all0)
  have z45 := own_lt f43.lt
  refine own_go (fun _ k => st42 _ k) ?_
  show own_Go _ _ _ _ T42 (mkF m 73 #[.val (.ref a_1), .val (.int 1), .val (.ref b20), .val (.ref b39), .unset, .unset] [])
  refine own_go (fun _ k => XS.aloadN X42.here hx rfl (hb hby own_d10_73) rfl rfl k) ?_
  have f46 := ((((pr_F_a_1_variableCount.ext E20).keep K31q (ninS (own_ne (by omega)) nin0)).ext E39).keep K42q (ninS (own_ne (by omega)) nin0))
  obtain ⟨T47, X47, e47, st47⟩ := getF X42 hx hZ hown (host := "") (Or.inl (own_w23 hw)) Via.refl rfl f46 (g := (mkF m 74 #[.val (.ref a_1), .val (.int 1), .val (.ref b20), .val (.ref b39), .unset, .unset] [(.ref a_1)])) rfl rfl (hb hby own_d10_74)
  refine own_go (fun _ k => st47 _ k) ?_
  show own_Go _ _ _ _ T47 (mkF m 77 #[.val (.ref a_1), .val (.int 1), .val (.ref b20), .val (.ref b39), .unset, .unset] [(.int 3)])
  refine own_go (fun _ k => XS.iconst X47.here hx rfl (hb hby own_d10_77) (XS.iadd X47.here hx rfl (hb hby own_d10_78) rfl k)) ?_
  obtain ⟨T48, h48, k48, X48, e48, E48, A48, st48⟩ := newP X47 hx hZ (hw _ (List.mem_of_getElem? (i := 9) rfl)) e47 (g := (mkF m 79 #[.val (.ref a_1), .val (.int 1), .val (.ref b20), .val (.ref b39), .unset, .unset] [(.int 4)])) rfl (hb hby own_d10_79) rfl (by decide) (cap := 4) (by decide) (by decide) (by rw [y42]; decide) (by rw [z42]; decide)
  obtain ⟨b48, g48⟩ : ∃ z, z = T42.heap.size := ⟨_, rfl⟩
  rw [← g48] at A48 st48
  have z49 := E48.1
  have lt_b48 := own_lt A48.lt
  have K48 : Keep h0 h48 [a_1] := K42.ext E48
  have V_b48 : own_AV Z h48 b48 .int 4 (fun _ => (.int 0)) := own_AV.new A48 (by decide)
  refine own_go (fun _ k => st48 _ k) ?_
  show own_Go _ _ _ _ T48 (mkF m 81 #[.val (.ref a_1), .val (.int 1), .val (.ref b20), .val (.ref b39), .unset, .unset] [(.ref b48)])
  refine own_go (fun _ k => XS.astore X48.here hx rfl (hb hby own_d10_81) rfl rfl (l' := #[.val (.ref a_1), .val (.int 1), .val (.ref b20), .val (.ref b39), .val (.ref b48), .unset]) rfl (XS.aloadN X48.here hx rfl (hb hby own_d10_83) rfl rfl (XS.aloadN X48.here hx rfl (hb hby own_d10_84) rfl rfl k))) ?_
  have f50 := (((((pr_F_a_1_bodies.ext E20).keep K31q (ninS (own_ne (by omega)) nin0)).ext E39).keep K42q (ninS (own_ne (by omega)) nin0)).ext E48)
  obtain ⟨T51, X51, e51, st51⟩ := getF X48 hx hZ hown (host := "") (Or.inl (hw _ (List.mem_of_getElem? (i := 14) rfl))) Via.refl e48 f50 (g := (mkF m 85 #[.val (.ref a_1), .val (.int 1), .val (.ref b20), .val (.ref b39), .val (.ref b48), .unset] [(.ref a_1), (.ref a_1)])) rfl rfl (hb hby own_d10_85)
  refine own_go (fun _ k => st51 _ k) ?_
  show own_Go _ _ _ _ T51 (mkF m 88 #[.val (.ref a_1), .val (.int 1), .val (.ref b20), .val (.ref b39), .val (.ref b48), .unset] [(.ref ob2), (.ref a_1)])
  refine own_go (fun _ k => XS.aloadN X51.here hx rfl (hb hby own_d10_88) rfl rfl (XS.iloadN X51.here hx rfl (hb hby own_d10_89) rfl (XS.aload X51.here hx rfl (hb hby own_d10_90) rfl rfl k))) ?_
  have f52 := (((((pr_A_ob2.ext E20).keep K31q (ninS (own_ne (by omega)) nin0)).ext E39).keep K42q (ninS (own_ne (by omega)) nin0)).ext E48)
  have f53 := (((f32.ext E39).keep K42q (ninS (own_ne (by omega)) nin0)).ext E48)
  have f54 := (f46.ext E48)
  have f56 := (((((pr_E_a_1.ext E20).keep K31q).ext E39).keep K42q).ext E48)
  obtain ⟨cq55, q55, q55'⟩ := (id f56).cell
  obtain ⟨_, _, ⟨T55, L55, k55, n55⟩, -, X55, ⟨Lc55, hQ55, l55, y55, z55⟩, st55⟩ := X51.privateBack hx (y := (⟨own_N1, "groupByVariable", "([I[II[I)[I"⟩ : MethodName)) hown (mvT hZ (hw _ (List.mem_of_getElem? (i := 92) rfl))) (mvT hZ (hw _ (List.mem_of_getElem? (i := 93) rfl))) (own_selfsel hZ (own_w1 hw) (hw _ (List.mem_of_getElem? (i := 93) rfl)) (hw _ (List.mem_of_getElem? (i := 94) rfl)) (by decide)) (Cond.privateMethod_at (mvP hZ (hw _ (List.mem_of_getElem? (i := 94) rfl)) (args := #[]))) (mvT hZ (hw _ (List.mem_of_getElem? (i := 95) rfl))) (by decide) (backOf (W := 0) (own_rm16_s1 l Z a0 hw [] a_1 ob2 b20 b48  h48 n0 (by omega) f52 f53 V_b48 f54 (by simp only [own_lts, and_true]; omega) (by omega)) hZ (hw _ (List.mem_of_getElem? (i := 95) rfl)) (own_w2 hw) (by decide) (by decide)) (g := (mkF m 92 #[.val (.ref a_1), .val (.int 1), .val (.ref b20), .val (.ref b39), .val (.ref b48), .unset] [(.ref b48), (.int 1), (.ref b20), (.ref ob2), (.ref a_1)])) rfl (by rw [hml]; rfl) (Steps.refl _) (a := a_1) (by rw [e51]; exact q55) q55' (argsL := [(.ref ob2), (.ref b20), (.int 1), (.ref b48)]) (rest := []) (lenOf own_pd11 rfl) rfl (by show 2 * 0 + _ ≤ _; exact Nat.le_of_eq rfl) (hb hby own_d10_92) (fun _ _ => ⟨rfl, e51, (by show k42 + 1 + _ ≤ _; rw [y42]; decide), (by show n42 + 4 + _ ≤ _; rw [z42]; decide)⟩)
  dsimp only [Pt.U, Pt.locs, Pt.cells, Pt.slots] at X55 l55 y55 z55 st55 hQ55
  have y55 : k55 = 5 := own_addeq y55 (congrArg (fun q => q + 1) y42) rfl
  have z55 : n55 = 10 := own_addeq z55 (congrArg (fun q => q + 4) z42) rfl
  obtain ⟨x_57, rfl, N55q, K55q, f58, f59, f60⟩ := hQ55
  have N55 : Fr n0 L55 := by rw [l55]; exact Fr.app N42 N55q
  have z61 := K55q.1
  have K55 : Keep h0 T55.heap [a_1] := K48.trans K55q (allS (Or.inr (by omega)) all0)
  have z62 := own_lt f58.lt
  have z63 := own_lt f59.lt
  refine own_go (fun _ k => st55.trans k) ?_
  show own_Go _ _ _ _ T55 (mkF m 95 #[.val (.ref a_1), .val (.int 1), .val (.ref b20), .val (.ref b39), .val (.ref b48), .unset] [(.ref x_57)])
  refine own_go (fun _ k => XS.astore X55.here hx rfl (hb hby own_d10_95) rfl rfl (l' := #[.val (.ref a_1), .val (.int 1), .val (.ref b20), .val (.ref b39), .val (.ref b48), .val (.ref x_57)]) rfl (XS.aloadN X55.here hx rfl (hb hby own_d10_97) rfl rfl (XS.aloadN X55.here hx rfl (hb hby own_d10_98) rfl rfl k))) ?_
  have f64 := (f54.keep K55q (ninS (own_ne (by omega)) nin0))
  obtain ⟨T65, X65, e65, st65⟩ := getF X55 hx hZ hown (host := "") (Or.inl (own_w23 hw)) Via.refl rfl f64 (g := (mkF m 99 #[.val (.ref a_1), .val (.int 1), .val (.ref b20), .val (.ref b39), .val (.ref b48), .val (.ref x_57)] [(.ref a_1), (.ref a_1)])) rfl rfl (hb hby own_d10_99)
  refine own_go (fun _ k => st65 _ k) ?_
  show own_Go _ _ _ _ T65 (mkF m 102 #[.val (.ref a_1), .val (.int 1), .val (.ref b20), .val (.ref b39), .val (.ref b48), .val (.ref x_57)] [(.int 3), (.ref a_1)])
  refine own_go (fun _ k => XS.iconst X65.here hx rfl (hb hby own_d10_102) (XS.iadd X65.here hx rfl (hb hby own_d10_103) rfl k)) ?_
  obtain ⟨T66, h66, k66, X66, e66, E66, A66, st66⟩ := newP X65 hx hZ (hw _ (List.mem_of_getElem? (i := 9) rfl)) e65 (g := (mkF m 104 #[.val (.ref a_1), .val (.int 1), .val (.ref b20), .val (.ref b39), .val (.ref b48), .val (.ref x_57)] [(.int 4), (.ref a_1)])) rfl (hb hby own_d10_104) rfl (by decide) (cap := 4) (by decide) (by decide) (by rw [y55]; decide) (by rw [z55]; decide)
  obtain ⟨b66, g66⟩ : ∃ z, z = T55.heap.size := ⟨_, rfl⟩
  rw [← g66] at A66 st66
  have z67 := E66.1
  have lt_b66 := own_lt A66.lt
  have K66 : Keep h0 h66 [a_1] := K55.ext E66
  have V_b66 : own_AV Z h66 b66 .int 4 (fun _ => (.int 0)) := own_AV.new A66 (by decide)
  refine own_go (fun _ k => st66 _ k) ?_
  show own_Go _ _ _ _ T66 (mkF m 106 #[.val (.ref a_1), .val (.int 1), .val (.ref b20), .val (.ref b39), .val (.ref b48), .val (.ref x_57)] [(.ref b66), (.ref a_1)])
  have f68 := ((f56.keep K55q).ext E66)
  have f69 := (((((((pr_F_a_1_derivationStarts.ext E20).keep K31q (ninS (own_ne (by omega)) nin0)).ext E39).keep K42q (ninS (own_ne (by omega)) nin0)).ext E48).keep K55q (ninS (own_ne (by omega)) nin0)).ext E66)
  obtain ⟨T70, h70, X70, e70, W70, st70⟩ := putF X66 hx hZ hown (host := "") (Or.inl (hw _ (List.mem_of_getElem? (i := 104) rfl))) Via.refl e66 f69 f68 (Or.inl (own_w105 hw)) (own_w1 hw) (ty := (.array .int)) (by decide) rfl rfl (g := (mkF m 106 #[.val (.ref a_1), .val (.int 1), .val (.ref b20), .val (.ref b39), .val (.ref b48), .val (.ref x_57)] [(.ref b66), (.ref a_1)])) rfl rfl (hb hby own_d10_106)
  have z71 := W70.size
  have K70 : Keep h0 h70 [a_1] := K66.wr W70 (Or.inl (List.mem_of_getElem? (i := 0) rfl))
  have N70 := Fr.snoc X70 N55 (by omega : n0 ≤ a_1)
  have Fw70 : Fld Z h70 a_1 own_N1 "derivationStarts" "[I" (.ref b66) := Fld.same W70 f69
  refine own_go (fun _ k => st70 _ k) ?_
  show own_Go _ _ _ _ T70 (mkF m 109 #[.val (.ref a_1), .val (.int 1), .val (.ref b20), .val (.ref b39), .val (.ref b48), .val (.ref x_57)] [])
  refine own_go (fun _ k => XS.aloadN X70.here hx rfl (hb hby own_d10_109) rfl rfl (XS.aloadN X70.here hx rfl (hb hby own_d10_110) rfl rfl (XS.aloadN X70.here hx rfl (hb hby own_d10_111) rfl rfl k))) ?_
  have f72 := ((((((((pr_F_a_1_heads.ext E20).keep K31q (ninS (own_ne (by omega)) nin0)).ext E39).keep K42q (ninS (own_ne (by omega)) nin0)).ext E48).keep K55q (ninS (own_ne (by omega)) nin0)).ext E66).other W70 (Or.inr (slot_ne (Or.inl (own_w11 hw)) (Or.inl (own_w105 hw)) (by decide) (t := (.array .int)) (t' := (.array .int)) (by decide) (by decide))))
  obtain ⟨T73, X73, e73, st73⟩ := getF X70 hx hZ hown (host := "") (Or.inl (hw _ (List.mem_of_getElem? (i := 10) rfl))) Via.refl e70 f72 (g := (mkF m 112 #[.val (.ref a_1), .val (.int 1), .val (.ref b20), .val (.ref b39), .val (.ref b48), .val (.ref x_57)] [(.ref a_1), (.ref a_1), (.ref a_1)])) rfl rfl (hb hby own_d10_112)
  refine own_go (fun _ k => st73 _ k) ?_
  show own_Go _ _ _ _ T73 (mkF m 115 #[.val (.ref a_1), .val (.int 1), .val (.ref b20), .val (.ref b39), .val (.ref b48), .val (.ref x_57)] [(.ref ob0), (.ref a_1), (.ref a_1)])
  refine own_go (fun _ k => XS.aloadN X73.here hx rfl (hb hby own_d10_115) rfl rfl (XS.aloadN X73.here hx rfl (hb hby own_d10_116) rfl rfl k)) ?_
  have f74 := ((((((f35.ext E39).keep K42q (ninS (own_ne (by omega)) nin0)).ext E48).keep K55q (ninS (own_ne (by omega)) nin0)).ext E66).other W70 (Or.inr (slot_ne (Or.inl (own_w47 hw)) (Or.inl (own_w105 hw)) (by decide) (t := .int) (t' := (.array .int)) (by decide) (by decide))))
  obtain ⟨T75, X75, e75, st75⟩ := getF X73 hx hZ hown (host := "") (Or.inl (own_w46 hw)) Via.refl e73 f74 (g := (mkF m 117 #[.val (.ref a_1), .val (.int 1), .val (.ref b20), .val (.ref b39), .val (.ref b48), .val (.ref x_57)] [(.ref a_1), (.ref b39), (.ref ob0), (.ref a_1), (.ref a_1)])) rfl rfl (hb hby own_d10_117)
  refine own_go (fun _ k => st75 _ k) ?_
  show own_Go _ _ _ _ T75 (mkF m 120 #[.val (.ref a_1), .val (.int 1), .val (.ref b20), .val (.ref b39), .val (.ref b48), .val (.ref x_57)] [(.int 1), (.ref b39), (.ref ob0), (.ref a_1), (.ref a_1)])
  refine own_go (fun _ k => XS.aloadN X75.here hx rfl (hb hby own_d10_120) rfl rfl k) ?_
  obtain ⟨T76, X76, e76, st76⟩ := getF X75 hx hZ hown (host := "") (Or.inl (hw _ (List.mem_of_getElem? (i := 104) rfl))) Via.refl e75 Fw70 (g := (mkF m 121 #[.val (.ref a_1), .val (.int 1), .val (.ref b20), .val (.ref b39), .val (.ref b48), .val (.ref x_57)] [(.ref a_1), (.int 1), (.ref b39), (.ref ob0), (.ref a_1), (.ref a_1)])) rfl rfl (hb hby own_d10_121)
  refine own_go (fun _ k => st76 _ k) ?_
  show own_Go _ _ _ _ T76 (mkF m 124 #[.val (.ref a_1), .val (.int 1), .val (.ref b20), .val (.ref b39), .val (.ref b48), .val (.ref x_57)] [(.ref b66), (.int 1), (.ref b39), (.ref ob0), (.ref a_1), (.ref a_1)])
  have f77 := ((((((((pr_A_ob0.ext E20).keep K31q (ninS (own_ne (by omega)) nin0)).ext E39).keep K42q (ninS (own_ne (by omega)) nin0)).ext E48).keep K55q (ninS (own_ne (by omega)) nin0)).ext E66).other W70 (own_ne (by omega)))
  have f78 := ((((f43.ext E48).keep K55q (ninS (own_ne (by omega)) nin0)).ext E66).other W70 (own_ne (by omega)))
  have f79 := (V_b66.other W70 (own_ne (by omega)))
  have f80 := ((f64.ext E66).other W70 (Or.inr (slot_ne (Or.inl (own_w24 hw)) (Or.inl (own_w105 hw)) (by decide) (t := .int) (t' := (.array .int)) (by decide) (by decide))))
  have f82 := (f68.wr W70)
  obtain ⟨cq81, q81, q81'⟩ := (id f82).cell
  obtain ⟨_, _, ⟨T81, L81, k81, n81⟩, -, X81, ⟨Lc81, hQ81, l81, y81, z81⟩, st81⟩ := X76.privateBack hx (y := (⟨own_N1, "groupByVariable", "([I[II[I)[I"⟩ : MethodName)) hown (mvT hZ (hw _ (List.mem_of_getElem? (i := 92) rfl))) (mvT hZ (hw _ (List.mem_of_getElem? (i := 93) rfl))) (own_selfsel hZ (own_w1 hw) (hw _ (List.mem_of_getElem? (i := 93) rfl)) (hw _ (List.mem_of_getElem? (i := 94) rfl)) (by decide)) (Cond.privateMethod_at (mvP hZ (hw _ (List.mem_of_getElem? (i := 94) rfl)) (args := #[]))) (mvT hZ (hw _ (List.mem_of_getElem? (i := 95) rfl))) (by decide) (backOf (W := 1) (own_rm16_s2 l Z a0 hw [] a_1 ob0 b39 b66  h70 n0 (by omega) f77 f78 f79 f80 (by simp only [own_lts, and_true]; omega) (by omega)) hZ (hw _ (List.mem_of_getElem? (i := 95) rfl)) (own_w2 hw) (by decide) (by decide)) (g := (mkF m 124 #[.val (.ref a_1), .val (.int 1), .val (.ref b20), .val (.ref b39), .val (.ref b48), .val (.ref x_57)] [(.ref b66), (.int 1), (.ref b39), (.ref ob0), (.ref a_1), (.ref a_1)])) rfl (by rw [hml]; rfl) (Steps.refl _) (a := a_1) (by rw [e76]; exact q81) q81' (argsL := [(.ref ob0), (.ref b39), (.int 1), (.ref b66)]) (rest := [(.ref a_1)]) (lenOf own_pd11 rfl) rfl (by show 2 * 0 + _ ≤ _; exact Nat.le_of_eq rfl) (hb hby own_d10_124) (fun _ _ => ⟨rfl, e76, (by show k55 + 1 + _ ≤ _; rw [y55]; decide), (by show n55 + 4 + _ ≤ _; rw [z55]; decide)⟩)
  dsimp only [Pt.U, Pt.locs, Pt.cells, Pt.slots] at X81 l81 y81 z81 st81 hQ81
  have y81 : k81 = 8 := own_addeq y81 (congrArg (fun q => q + 1) y55) rfl
  have z81 : n81 = 18 := own_addeq z81 (congrArg (fun q => q + 4) z55) rfl
  obtain ⟨x_83, rfl, N81q, K81q, f84, f85, f86⟩ := hQ81
  have N81 : Fr n0 L81 := by rw [l81]; exact Fr.app N70 N81q
  have z87 := K81q.1
  have K81 : Keep h0 T81.heap [a_1] := K70.trans K81q (allS (Or.inr (by omega)) all0)
  have z88 := own_lt f84.lt
  have z89 := own_lt f85.lt
  refine own_go (fun _ k => st81.trans k) ?_
  show own_Go _ _ _ _ T81 (mkF m 127 #[.val (.ref a_1), .val (.int 1), .val (.ref b20), .val (.ref b39), .val (.ref b48), .val (.ref x_57)] [(.ref x_83), (.ref a_1)])
  have f90 := (f82.keep K81q)
  have f91 := (((((((((pr_F_a_1_derivations.ext E20).keep K31q (ninS (own_ne (by omega)) nin0)).ext E39).keep K42q (ninS (own_ne (by omega)) nin0)).ext E48).keep K55q (ninS (own_ne (by omega)) nin0)).ext E66).other W70 (Or.inr (slot_ne (Or.inl (own_w107 hw)) (Or.inl (own_w105 hw)) (by decide) (t := (.array .int)) (t' := (.array .int)) (by decide) (by decide)))).keep K81q (ninS (own_ne (by omega)) nin0))
  obtain ⟨T92, h92, X92, e92, W92, st92⟩ := putF X81 hx hZ hown (host := "") (Or.inl (hw _ (List.mem_of_getElem? (i := 106) rfl))) Via.refl rfl f91 f90 (Or.inl (own_w107 hw)) (own_w1 hw) (ty := (.array .int)) (by decide) rfl rfl (g := (mkF m 127 #[.val (.ref a_1), .val (.int 1), .val (.ref b20), .val (.ref b39), .val (.ref b48), .val (.ref x_57)] [(.ref x_83), (.ref a_1)])) rfl rfl (hb hby own_d10_127)
  have z93 := W92.size
  have K92 : Keep h0 h92 [a_1] := K81.wr W92 (Or.inl (List.mem_of_getElem? (i := 0) rfl))
  have N92 := Fr.snoc X92 N81 (by omega : n0 ≤ a_1)
  have Fw92 : Fld Z h92 a_1 own_N1 "derivations" "[I" (.ref x_83) := Fld.same W92 f91
  refine own_go (fun _ k => st92 _ k) ?_
  show own_Go _ _ _ _ T92 (mkF m 130 #[.val (.ref a_1), .val (.int 1), .val (.ref b20), .val (.ref b39), .val (.ref b48), .val (.ref x_57)] [])
  refine own_go (fun _ k => XS.aloadN X92.here hx rfl (hb hby own_d10_130) rfl rfl (XS.aload X92.here hx rfl (hb hby own_d10_131) rfl rfl k)) ?_
  have f94 := (f90.wr W92)
  have f95 := ((((((((((pr_F_a_1_occurrenceStarts.ext E20).keep K31q (ninS (own_ne (by omega)) nin0)).ext E39).keep K42q (ninS (own_ne (by omega)) nin0)).ext E48).keep K55q (ninS (own_ne (by omega)) nin0)).ext E66).other W70 (Or.inr (slot_ne (Or.inl (own_w109 hw)) (Or.inl (own_w105 hw)) (by decide) (t := (.array .int)) (t' := (.array .int)) (by decide) (by decide)))).keep K81q (ninS (own_ne (by omega)) nin0)).other W92 (Or.inr (slot_ne (Or.inl (own_w109 hw)) (Or.inl (own_w107 hw)) (by decide) (t := (.array .int)) (t' := (.array .int)) (by decide) (by decide))))
  obtain ⟨T96, h96, X96, e96, W96, st96⟩ := putF X92 hx hZ hown (host := "") (Or.inl (own_w108 hw)) Via.refl e92 f95 f94 (Or.inl (own_w109 hw)) (own_w1 hw) (ty := (.array .int)) (by decide) rfl rfl (g := (mkF m 133 #[.val (.ref a_1), .val (.int 1), .val (.ref b20), .val (.ref b39), .val (.ref b48), .val (.ref x_57)] [(.ref b48), (.ref a_1)])) rfl rfl (hb hby own_d10_133)
  have z97 := W96.size
  have K96 : Keep h0 h96 [a_1] := K92.wr W96 (Or.inl (List.mem_of_getElem? (i := 0) rfl))
  have N96 := Fr.snoc X96 N92 (by omega : n0 ≤ a_1)
  have Fw96 : Fld Z h96 a_1 own_N1 "occurrenceStarts" "[I" (.ref b48) := Fld.same W96 f95
  refine own_go (fun _ k => st96 _ k) ?_
  show own_Go _ _ _ _ T96 (mkF m 136 #[.val (.ref a_1), .val (.int 1), .val (.ref b20), .val (.ref b39), .val (.ref b48), .val (.ref x_57)] [])
  refine own_go (fun _ k => XS.aloadN X96.here hx rfl (hb hby own_d10_136) rfl rfl (XS.aload X96.here hx rfl (hb hby own_d10_137) rfl rfl k)) ?_
  have f98 := (f94.wr W96)
  have f99 := (((((((((((pr_F_a_1_occurrences.ext E20).keep K31q (ninS (own_ne (by omega)) nin0)).ext E39).keep K42q (ninS (own_ne (by omega)) nin0)).ext E48).keep K55q (ninS (own_ne (by omega)) nin0)).ext E66).other W70 (Or.inr (slot_ne (Or.inl (own_w22 hw)) (Or.inl (own_w105 hw)) (by decide) (t := (.array .int)) (t' := (.array .int)) (by decide) (by decide)))).keep K81q (ninS (own_ne (by omega)) nin0)).other W92 (Or.inr (slot_ne (Or.inl (own_w22 hw)) (Or.inl (own_w107 hw)) (by decide) (t := (.array .int)) (t' := (.array .int)) (by decide) (by decide)))).other W96 (Or.inr (slot_ne (Or.inl (own_w22 hw)) (Or.inl (own_w109 hw)) (by decide) (t := (.array .int)) (t' := (.array .int)) (by decide) (by decide))))
  obtain ⟨T100, h100, X100, e100, W100, st100⟩ := putF X96 hx hZ hown (host := "") (Or.inl (hw _ (List.mem_of_getElem? (i := 21) rfl))) Via.refl e96 f99 f98 (Or.inl (own_w22 hw)) (own_w1 hw) (ty := (.array .int)) (by decide) rfl rfl (g := (mkF m 139 #[.val (.ref a_1), .val (.int 1), .val (.ref b20), .val (.ref b39), .val (.ref b48), .val (.ref x_57)] [(.ref x_57), (.ref a_1)])) rfl rfl (hb hby own_d10_139)
  have z101 := W100.size
  have K100 : Keep h0 h100 [a_1] := K96.wr W100 (Or.inl (List.mem_of_getElem? (i := 0) rfl))
  have N100 := Fr.snoc X100 N96 (by omega : n0 ≤ a_1)
  have Fw100 : Fld Z h100 a_1 own_N1 "occurrences" "[I" (.ref x_57) := Fld.same W100 f99
  refine own_go (fun _ k => st100 _ k) ?_
  show own_Go _ _ _ _ T100 (mkF m 142 #[.val (.ref a_1), .val (.int 1), .val (.ref b20), .val (.ref b39), .val (.ref b48), .val (.ref x_57)] [])
  obtain ⟨fs, hr, hrun, hended, hW, hsame⟩ := X100.leave (v := none) (fun _ => rfl)
  refine ⟨_, _, X100.returnOut hx Bd.returns (hb hby own_d10_142) hr, hrun, hended, _, _, rfl, ?_, ⟨_, rfl⟩, hW, hsame.mono (by rw [y81]; decide) (by rw [z81]; decide)⟩
  show own_Q10_s1 Z a_1 g_lam ob0 ob1 ob2 u_0 u_1 u_2 h0 n0 _ T100.heap _
  rw [e100]
  have f103 := (f98.wr W100)
  have f104 := (((((((f50.keep K55q (ninS (own_ne (by omega)) nin0)).ext E66).other W70 (Or.inr (slot_ne (Or.inl (own_w15 hw)) (Or.inl (own_w105 hw)) (by decide) (t := (.array .int)) (t' := (.array .int)) (by decide) (by decide)))).keep K81q (ninS (own_ne (by omega)) nin0)).other W92 (Or.inr (slot_ne (Or.inl (own_w15 hw)) (Or.inl (own_w107 hw)) (by decide) (t := (.array .int)) (t' := (.array .int)) (by decide) (by decide)))).other W96 (Or.inr (slot_ne (Or.inl (own_w15 hw)) (Or.inl (own_w109 hw)) (by decide) (t := (.array .int)) (t' := (.array .int)) (by decide) (by decide)))).other W100 (Or.inr (slot_ne (Or.inl (own_w15 hw)) (Or.inl (own_w22 hw)) (by decide) (t := (.array .int)) (t' := (.array .int)) (by decide) (by decide))))
  have f105 := (((((((((((f25.keep K31q (ninS (own_ne (by omega)) nin0)).ext E39).keep K42q (ninS (own_ne (by omega)) nin0)).ext E48).keep K55q (ninS (own_ne (by omega)) nin0)).ext E66).other W70 (Or.inr (slot_ne (Or.inl (own_w13 hw)) (Or.inl (own_w105 hw)) (by decide) (t := (.array .int)) (t' := (.array .int)) (by decide) (by decide)))).keep K81q (ninS (own_ne (by omega)) nin0)).other W92 (Or.inr (slot_ne (Or.inl (own_w13 hw)) (Or.inl (own_w107 hw)) (by decide) (t := (.array .int)) (t' := (.array .int)) (by decide) (by decide)))).other W96 (Or.inr (slot_ne (Or.inl (own_w13 hw)) (Or.inl (own_w109 hw)) (by decide) (t := (.array .int)) (t' := (.array .int)) (by decide) (by decide)))).other W100 (Or.inr (slot_ne (Or.inl (own_w13 hw)) (Or.inl (own_w22 hw)) (by decide) (t := (.array .int)) (t' := (.array .int)) (by decide) (by decide))))
  have f106 := ((((f74.keep K81q (ninS (own_ne (by omega)) nin0)).other W92 (Or.inr (slot_ne (Or.inl (own_w47 hw)) (Or.inl (own_w107 hw)) (by decide) (t := .int) (t' := (.array .int)) (by decide) (by decide)))).other W96 (Or.inr (slot_ne (Or.inl (own_w47 hw)) (Or.inl (own_w109 hw)) (by decide) (t := .int) (t' := (.array .int)) (by decide) (by decide)))).other W100 (Or.inr (slot_ne (Or.inl (own_w47 hw)) (Or.inl (own_w22 hw)) (by decide) (t := .int) (t' := (.array .int)) (by decide) (by decide))))
  have f107 := ((((Fw70.keep K81q (ninS (own_ne (by omega)) nin0)).other W92 (Or.inr (slot_ne (Or.inl (own_w105 hw)) (Or.inl (own_w107 hw)) (by decide) (t := (.array .int)) (t' := (.array .int)) (by decide) (by decide)))).other W96 (Or.inr (slot_ne (Or.inl (own_w105 hw)) (Or.inl (own_w109 hw)) (by decide) (t := (.array .int)) (t' := (.array .int)) (by decide) (by decide)))).other W100 (Or.inr (slot_ne (Or.inl (own_w105 hw)) (Or.inl (own_w22 hw)) (by decide) (t := (.array .int)) (t' := (.array .int)) (by decide) (by decide))))
  have f108 := ((Fw92.other W96 (Or.inr (slot_ne (Or.inl (own_w107 hw)) (Or.inl (own_w109 hw)) (by decide) (t := (.array .int)) (t' := (.array .int)) (by decide) (by decide)))).other W100 (Or.inr (slot_ne (Or.inl (own_w107 hw)) (Or.inl (own_w22 hw)) (by decide) (t := (.array .int)) (t' := (.array .int)) (by decide) (by decide))))
  have f109 := ((((f72.keep K81q (ninS (own_ne (by omega)) nin0)).other W92 (Or.inr (slot_ne (Or.inl (own_w11 hw)) (Or.inl (own_w107 hw)) (by decide) (t := (.array .int)) (t' := (.array .int)) (by decide) (by decide)))).other W96 (Or.inr (slot_ne (Or.inl (own_w11 hw)) (Or.inl (own_w109 hw)) (by decide) (t := (.array .int)) (t' := (.array .int)) (by decide) (by decide)))).other W100 (Or.inr (slot_ne (Or.inl (own_w11 hw)) (Or.inl (own_w22 hw)) (by decide) (t := (.array .int)) (t' := (.array .int)) (by decide) (by decide))))
  have f110 := (Fw96.other W100 (Or.inr (slot_ne (Or.inl (own_w109 hw)) (Or.inl (own_w22 hw)) (by decide) (t := (.array .int)) (t' := (.array .int)) (by decide) (by decide))))
  have f111 := ((((f80.keep K81q (ninS (own_ne (by omega)) nin0)).other W92 (Or.inr (slot_ne (Or.inl (own_w24 hw)) (Or.inl (own_w107 hw)) (by decide) (t := .int) (t' := (.array .int)) (by decide) (by decide)))).other W96 (Or.inr (slot_ne (Or.inl (own_w24 hw)) (Or.inl (own_w109 hw)) (by decide) (t := .int) (t' := (.array .int)) (by decide) (by decide)))).other W100 (Or.inr (slot_ne (Or.inl (own_w24 hw)) (Or.inl (own_w22 hw)) (by decide) (t := .int) (t' := (.array .int)) (by decide) (by decide))))
  have f112 := (((f84.other W92 (own_ne (by omega))).other W96 (own_ne (by omega))).other W100 (own_ne (by omega)))
  have f113 := (((f85.other W92 (own_ne (by omega))).other W96 (own_ne (by omega))).other W100 (own_ne (by omega)))
  have f114 := ((((((f58.ext E66).other W70 (own_ne (by omega))).keep K81q (ninS (own_ne (by omega)) nin0)).other W92 (own_ne (by omega))).other W96 (own_ne (by omega))).other W100 (own_ne (by omega)))
  have f115 := ((((((f59.ext E66).other W70 (own_ne (by omega))).keep K81q (ninS (own_ne (by omega)) nin0)).other W92 (own_ne (by omega))).other W96 (own_ne (by omega))).other W100 (own_ne (by omega)))
  exact ⟨b66, x_83, b48, x_57, rfl, N100, K100, f103, f104, f105, f106, f107, f108, f109, f110, Fw100, f111, f112, f113, f114, f115, (by omega), (by omega), (by omega), (by omega), (by simp only [own_lts, and_true]; omega)⟩
theorem own_d19_0 : decode prog_7_method_1_code 0 = .ok (.aload_n 0, 1) := by decide +kernel
theorem own_d19_1 : decode prog_7_method_1_code 1 = .ok (.invokespecial 1, 3) := by decide +kernel
theorem own_d19_4 : decode prog_7_method_1_code 4 = .ok (.aload_n 0, 1) := by decide +kernel
theorem own_d19_5 : decode prog_7_method_1_code 5 = .ok (.iload_n 1, 1) := by decide +kernel
theorem own_d19_6 : decode prog_7_method_1_code 6 = .ok (.newarray .boolean, 2) := by decide +kernel
theorem own_d19_8 : decode prog_7_method_1_code 8 = .ok (.putfield 7, 3) := by decide +kernel
theorem own_d19_11 : decode prog_7_method_1_code 11 = .ok (.aload_n 0, 1) := by decide +kernel
theorem own_d19_12 : decode prog_7_method_1_code 12 = .ok (.iload_n 1, 1) := by decide +kernel
theorem own_d19_13 : decode prog_7_method_1_code 13 = .ok (.newarray .int, 2) := by decide +kernel
theorem own_d19_15 : decode prog_7_method_1_code 15 = .ok (.putfield 13, 3) := by decide +kernel
theorem own_d19_18 : decode prog_7_method_1_code 18 = .ok (.aload_n 0, 1) := by decide +kernel
theorem own_d19_19 : decode prog_7_method_1_code 19 = .ok (.iload_n 1, 1) := by decide +kernel
theorem own_d19_20 : decode prog_7_method_1_code 20 = .ok (.newarray .int, 2) := by decide +kernel
theorem own_d19_22 : decode prog_7_method_1_code 22 = .ok (.putfield 17, 3) := by decide +kernel
theorem own_d19_25 : decode prog_7_method_1_code 25 = .ok (.return_, 1) := by decide +kernel
theorem own_ef_own_rm19_s1 (m : MethodId) (x0 : Addr) : entryFrame m #[(.ref x0), (.int 3)] 2 = mkF m 0 #[.val (.ref x0), .val (.int 3)] [] := by first | (simp [entryFrame, mkF, argsToLocals, Value.category]; done) | rfl
def own_Q19_s1 (Z : State) (a_1 : Addr) (u_0 : Value) (u_1 : Value) (u_2 : Value) (u_3 : Value) (h0 : Heap) (n0 : Nat) (v : Option Value) (h : Heap) (L : List Loc) : Prop := ∃ (x_0 : Addr) (x_1 : Addr) (x_2 : Addr), v = none ∧ Fr n0 L ∧ Keep h0 h [a_1] ∧ Exa Z h a_1 own_N0 ∧ Fld Z h a_1 own_N0 "order" "[I" (.ref x_0) ∧ Fld Z h a_1 own_N0 "reasons" "[I" (.ref x_1) ∧ Fld Z h a_1 own_N0 "size" "I" u_3 ∧ Fld Z h a_1 own_N0 "values" "[Z" (.ref x_2) ∧ own_AV Z h x_0 .int 3 (fun _ => (.int 0)) ∧ own_AV Z h x_1 .int 3 (fun _ => (.int 0)) ∧ own_AV Z h x_2 .boolean (3 : Int32) (fun _ => (.int 0)) ∧ (h0.size ≤ x_0) ∧ (h0.size ≤ x_1) ∧ (h0.size ≤ x_2) ∧ (own_lts [x_2, x_1, x_0])
set_option maxRecDepth 65536 in
set_option maxHeartbeats 40000000 in
theorem own_rm19_s1 (l : Launch) (Z : State) (a0 : Array Value) (hw : ∀ d ∈ tables_1, d.before a0 Z = true) (ws : List Jvm.Cond) (a_1 : Addr) (u_0 : Value) (u_1 : Value) (u_2 : Value) (u_3 : Value) (h0 : Heap) (n0 : Nat) (Z0 : n0 ≤ h0.size) (pr_E_a_1 : Exa Z h0 a_1 own_N0) (pr_F_a_1_order : Fld Z h0 a_1 own_N0 "order" "[I" u_2) (pr_F_a_1_reasons : Fld Z h0 a_1 own_N0 "reasons" "[I" u_1) (pr_F_a_1_size : Fld Z h0 a_1 own_N0 "size" "I" u_3) (pr_F_a_1_values : Fld Z h0 a_1 own_N0 "values" "[Z" u_0) (gw_a_1 : n0 ≤ a_1) :
    MetFree l (⟨own_N0, "<init>", "(I)V"⟩ : MethodName) (head1 (Jvm.Cond.code (⟨own_N0, "<init>", "(I)V"⟩ : MethodName) prog_7_method_1_code 2 none :: ws) ({ frames := 1, cells := 3, slots := 9, locals := 12 } : Room)) (fun a U => a = #[(.ref a_1), (.int 3)] ∧ Z.Warmed39 U.vm ∧ U.heap = h0) (fun _ _ _ _ _ => True) (fun _ U o U' => ∃ v L, o = .returned v ∧ own_Q19_s1 Z a_1 u_0 u_1 u_2 u_3 h0 n0 v U'.heap L ∧ FrameEnd U o U' L ({ frames := 1, cells := 3, slots := 9, locals := 12 } : Room).cells ({ frames := 1, cells := 3, slots := 9, locals := 12 } : Room).slots) := by
  refine MetFree.of_bodySF (plainFor_of_name own_pn3) hisR ?_
  intro p e s m args below meth c s₁ Bd hml0 hP hK
  obtain ⟨rfl, hZ, hh⟩ := hP
  have hx := Bd.exec
  have hby := Bd.bytes
  have hml : c.maxLocals = 2 := hml0
  have hown : s.vm.findClass own_N0 = some m.cls := findClass_of_methodNamed Bd.named
  have hnm := (name_of_methodNamed Bd.named Bd.method).1
  have X0 : Stand p l e ({ frames := 1, cells := 3, slots := 9, locals := 12 } : Room) s m #[(.ref a_1), (.int 3)] below meth c s₁ [] 0 0 := Stand.of_body Bd
  have e0 : s₁.heap = h0 := by rw [← hh, Bd.state]; rfl
  have N0 := Fr.nil n0
  have z0 : n0 ≤ h0.size := Z0
  have z1 := own_lt pr_E_a_1.lt
  have z2 := own_lt pr_F_a_1_order.lt
  have z3 := own_lt pr_F_a_1_reasons.lt
  have z4 := own_lt pr_F_a_1_size.lt
  have z5 := own_lt pr_F_a_1_values.lt
  have K0 : Keep h0 h0 [a_1] := Keep.refl h0 _
  show own_Go p.tables e below (fun t o => t.status = .running ∧ Ended t below o ∧ ∃ v L, o = .returned v ∧ own_Q19_s1 Z a_1 u_0 u_1 u_2 u_3 h0 n0 v t.heap L ∧ FrameEnd s o t L ({ frames := 1, cells := 3, slots := 9, locals := 12 } : Room).cells ({ frames := 1, cells := 3, slots := 9, locals := 12 } : Room).slots) s₁ (entryFrame m #[(.ref a_1), (.int 3)] 2)
  rw [own_ef_own_rm19_s1 m a_1]
  show own_Go _ _ _ _ s₁ (mkF m 0 #[.val (.ref a_1), .val (.int 3)] [])
  refine own_go (fun _ k => XS.aloadN X0.here hx rfl (hb hby own_d19_0) rfl rfl k) ?_
  obtain ⟨T6, X6, e6, st6⟩ := initO X0 hx hZ hown (hw _ (List.mem_of_getElem? (i := 116) rfl)) (hw _ (List.mem_of_getElem? (i := 7) rfl)) (hw _ (List.mem_of_getElem? (i := 8) rfl)) e0 (g := (mkF m 1 #[.val (.ref a_1), .val (.int 3)] [(.ref a_1)])) rfl (by rw [hml]; rfl) rfl (hb hby own_d19_1) (by decide) (W := 0) (by show 2 * 0 + _ ≤ _; exact Nat.le_of_eq rfl) (by decide)
  refine own_go (fun _ k => st6 _ k) ?_
  show own_Go _ _ _ _ T6 (mkF m 4 #[.val (.ref a_1), .val (.int 3)] [])
  refine own_go (fun _ k => XS.aloadN X6.here hx rfl (hb hby own_d19_4) rfl rfl (XS.iloadN X6.here hx rfl (hb hby own_d19_5) rfl k)) ?_
  obtain ⟨T7, h7, k7, X7, e7, E7, A7, st7⟩ := newP X6 hx hZ (hw _ (List.mem_of_getElem? (i := 117) rfl)) e6 (g := (mkF m 6 #[.val (.ref a_1), .val (.int 3)] [(.int 3), (.ref a_1)])) rfl (hb hby own_d19_6) rfl (by decide) (cap := 3) (by decide) (by decide) (by decide) (by decide)
  obtain ⟨b7, g7⟩ : ∃ z, z = h0.size := ⟨_, rfl⟩
  rw [← g7] at A7 st7
  have z8 := E7.1
  have lt_b7 := own_lt A7.lt
  have K7 : Keep h0 h7 [a_1] := K0.ext E7
  have V_b7 : own_AV Z h7 b7 .boolean (3 : Int32) (fun _ => (.int 0)) := own_AV.new A7 (by decide)
  refine own_go (fun _ k => st7 _ k) ?_
  show own_Go _ _ _ _ T7 (mkF m 8 #[.val (.ref a_1), .val (.int 3)] [(.ref b7), (.ref a_1)])
  have f9 := (pr_E_a_1.ext E7)
  have f10 := (pr_F_a_1_values.ext E7)
  obtain ⟨T11, h11, X11, e11, W11, st11⟩ := putF X7 hx hZ hown (host := "") (Or.inl (own_w118 hw)) Via.refl e7 f10 f9 (Or.inr ⟨(own_w119 hw), rfl, hnm⟩) (own_w111 hw) (ty := (.array .boolean)) (by decide) rfl rfl (g := (mkF m 8 #[.val (.ref a_1), .val (.int 3)] [(.ref b7), (.ref a_1)])) rfl rfl (hb hby own_d19_8)
  have z12 := W11.size
  have K11 : Keep h0 h11 [a_1] := K7.wr W11 (Or.inl (List.mem_of_getElem? (i := 0) rfl))
  have N11 := Fr.snoc X11 N0 (by omega : n0 ≤ a_1)
  have Fw11 : Fld Z h11 a_1 own_N0 "values" "[Z" (.ref b7) := Fld.same W11 f10
  refine own_go (fun _ k => st11 _ k) ?_
  show own_Go _ _ _ _ T11 (mkF m 11 #[.val (.ref a_1), .val (.int 3)] [])
  refine own_go (fun _ k => XS.aloadN X11.here hx rfl (hb hby own_d19_11) rfl rfl (XS.iloadN X11.here hx rfl (hb hby own_d19_12) rfl k)) ?_
  obtain ⟨T13, h13, k13, X13, e13, E13, A13, st13⟩ := newP X11 hx hZ (hw _ (List.mem_of_getElem? (i := 9) rfl)) e11 (g := (mkF m 13 #[.val (.ref a_1), .val (.int 3)] [(.int 3), (.ref a_1)])) rfl (hb hby own_d19_13) rfl (by decide) (cap := 3) (by decide) (by decide) (by decide) (by decide)
  obtain ⟨b13, g13⟩ : ∃ z, z = h11.size := ⟨_, rfl⟩
  rw [← g13] at A13 st13
  have z14 := E13.1
  have lt_b13 := own_lt A13.lt
  have K13 : Keep h0 h13 [a_1] := K11.ext E13
  have V_b13 : own_AV Z h13 b13 .int 3 (fun _ => (.int 0)) := own_AV.new A13 (by decide)
  refine own_go (fun _ k => st13 _ k) ?_
  show own_Go _ _ _ _ T13 (mkF m 15 #[.val (.ref a_1), .val (.int 3)] [(.ref b13), (.ref a_1)])
  have f15 := ((f9.wr W11).ext E13)
  have f16 := (((pr_F_a_1_reasons.ext E7).other W11 (Or.inr (slot_ne (Or.inr (own_w121 hw)) (Or.inr (own_w119 hw)) (by decide) (t := (.array .int)) (t' := (.array .boolean)) (by decide) (by decide)))).ext E13)
  obtain ⟨T17, h17, X17, e17, W17, st17⟩ := putF X13 hx hZ hown (host := "") (Or.inl (hw _ (List.mem_of_getElem? (i := 120) rfl))) Via.refl e13 f16 f15 (Or.inr ⟨(own_w121 hw), rfl, hnm⟩) (own_w111 hw) (ty := (.array .int)) (by decide) rfl rfl (g := (mkF m 15 #[.val (.ref a_1), .val (.int 3)] [(.ref b13), (.ref a_1)])) rfl rfl (hb hby own_d19_15)
  have z18 := W17.size
  have K17 : Keep h0 h17 [a_1] := K13.wr W17 (Or.inl (List.mem_of_getElem? (i := 0) rfl))
  have N17 := Fr.snoc X17 N11 (by omega : n0 ≤ a_1)
  have Fw17 : Fld Z h17 a_1 own_N0 "reasons" "[I" (.ref b13) := Fld.same W17 f16
  refine own_go (fun _ k => st17 _ k) ?_
  show own_Go _ _ _ _ T17 (mkF m 18 #[.val (.ref a_1), .val (.int 3)] [])
  refine own_go (fun _ k => XS.aloadN X17.here hx rfl (hb hby own_d19_18) rfl rfl (XS.iloadN X17.here hx rfl (hb hby own_d19_19) rfl k)) ?_
  obtain ⟨T19, h19, k19, X19, e19, E19, A19, st19⟩ := newP X17 hx hZ (hw _ (List.mem_of_getElem? (i := 9) rfl)) e17 (g := (mkF m 20 #[.val (.ref a_1), .val (.int 3)] [(.int 3), (.ref a_1)])) rfl (hb hby own_d19_20) rfl (by decide) (cap := 3) (by decide) (by decide) (by decide) (by decide)
  obtain ⟨b19, g19⟩ : ∃ z, z = h17.size := ⟨_, rfl⟩
  rw [← g19] at A19 st19
  have z20 := E19.1
  have lt_b19 := own_lt A19.lt
  have K19 : Keep h0 h19 [a_1] := K17.ext E19
  have V_b19 : own_AV Z h19 b19 .int 3 (fun _ => (.int 0)) := own_AV.new A19 (by decide)
  refine own_go (fun _ k => st19 _ k) ?_
  show own_Go _ _ _ _ T19 (mkF m 22 #[.val (.ref a_1), .val (.int 3)] [(.ref b19), (.ref a_1)])
  have f21 := ((f15.wr W17).ext E19)
  have f22 := (((((pr_F_a_1_order.ext E7).other W11 (Or.inr (slot_ne (Or.inr (own_w123 hw)) (Or.inr (own_w119 hw)) (by decide) (t := (.array .int)) (t' := (.array .boolean)) (by decide) (by decide)))).ext E13).other W17 (Or.inr (slot_ne (Or.inr (own_w123 hw)) (Or.inr (own_w121 hw)) (by decide) (t := (.array .int)) (t' := (.array .int)) (by decide) (by decide)))).ext E19)
  obtain ⟨T23, h23, X23, e23, W23, st23⟩ := putF X19 hx hZ hown (host := "") (Or.inl (own_w122 hw)) Via.refl e19 f22 f21 (Or.inr ⟨(own_w123 hw), rfl, hnm⟩) (own_w111 hw) (ty := (.array .int)) (by decide) rfl rfl (g := (mkF m 22 #[.val (.ref a_1), .val (.int 3)] [(.ref b19), (.ref a_1)])) rfl rfl (hb hby own_d19_22)
  have z24 := W23.size
  have K23 : Keep h0 h23 [a_1] := K19.wr W23 (Or.inl (List.mem_of_getElem? (i := 0) rfl))
  have N23 := Fr.snoc X23 N17 (by omega : n0 ≤ a_1)
  have Fw23 : Fld Z h23 a_1 own_N0 "order" "[I" (.ref b19) := Fld.same W23 f22
  refine own_go (fun _ k => st23 _ k) ?_
  show own_Go _ _ _ _ T23 (mkF m 25 #[.val (.ref a_1), .val (.int 3)] [])
  obtain ⟨fs, hr, hrun, hended, hW, hsame⟩ := X23.leave (v := none) (fun _ => rfl)
  refine ⟨_, _, X23.returnOut hx Bd.returns (hb hby own_d19_25) hr, hrun, hended, _, _, rfl, ?_, ⟨_, rfl⟩, hW, hsame.mono (by decide) (by decide)⟩
  show own_Q19_s1 Z a_1 u_0 u_1 u_2 u_3 h0 n0 _ T23.heap _
  rw [e23]
  have f26 := (f21.wr W23)
  have f27 := ((Fw17.ext E19).other W23 (Or.inr (slot_ne (Or.inr (own_w121 hw)) (Or.inr (own_w123 hw)) (by decide) (t := (.array .int)) (t' := (.array .int)) (by decide) (by decide))))
  have f28 := ((((((pr_F_a_1_size.ext E7).other W11 (Or.inr (slot_ne (Or.inl (own_w130 hw)) (Or.inr (own_w119 hw)) (by decide) (t := .int) (t' := (.array .boolean)) (by decide) (by decide)))).ext E13).other W17 (Or.inr (slot_ne (Or.inl (own_w130 hw)) (Or.inr (own_w121 hw)) (by decide) (t := .int) (t' := (.array .int)) (by decide) (by decide)))).ext E19).other W23 (Or.inr (slot_ne (Or.inl (own_w130 hw)) (Or.inr (own_w123 hw)) (by decide) (t := .int) (t' := (.array .int)) (by decide) (by decide))))
  have f29 := ((((Fw11.ext E13).other W17 (Or.inr (slot_ne (Or.inr (own_w119 hw)) (Or.inr (own_w121 hw)) (by decide) (t := (.array .boolean)) (t' := (.array .int)) (by decide) (by decide)))).ext E19).other W23 (Or.inr (slot_ne (Or.inr (own_w119 hw)) (Or.inr (own_w123 hw)) (by decide) (t := (.array .boolean)) (t' := (.array .int)) (by decide) (by decide))))
  have f30 := (V_b19.other W23 (own_ne (by omega)))
  have f31 := (((V_b13.other W17 (own_ne (by omega))).ext E19).other W23 (own_ne (by omega)))
  have f32 := (((((V_b7.other W11 (own_ne (by omega))).ext E13).other W17 (own_ne (by omega))).ext E19).other W23 (own_ne (by omega)))
  exact ⟨b19, b13, b7, rfl, N23, K23, f26, Fw23, f27, f28, f29, f30, f31, f32, (by omega), (by omega), (by omega), (by simp only [own_lts, and_true]; omega)⟩
theorem own_d20_0 : decode prog_7_method_2_code 0 = .ok (.aload_n 0, 1) := by decide +kernel
theorem own_d20_1 : decode prog_7_method_2_code 1 = .ok (.getfield 7, 3) := by decide +kernel
theorem own_d20_4 : decode prog_7_method_2_code 4 = .ok (.iload_n 1, 1) := by decide +kernel
theorem own_d20_5 : decode prog_7_method_2_code 5 = .ok (.baload, 1) := by decide +kernel
theorem own_d20_6 : decode prog_7_method_2_code 6 = .ok (.ifCond .ne 37, 3) := by decide +kernel
theorem own_d20_9 : decode prog_7_method_2_code 9 = .ok (.aload_n 0, 1) := by decide +kernel
theorem own_d20_10 : decode prog_7_method_2_code 10 = .ok (.getfield 7, 3) := by decide +kernel
theorem own_d20_13 : decode prog_7_method_2_code 13 = .ok (.iload_n 1, 1) := by decide +kernel
theorem own_d20_14 : decode prog_7_method_2_code 14 = .ok (.iconst 1, 1) := by decide +kernel
theorem own_d20_15 : decode prog_7_method_2_code 15 = .ok (.bastore, 1) := by decide +kernel
theorem own_d20_16 : decode prog_7_method_2_code 16 = .ok (.aload_n 0, 1) := by decide +kernel
theorem own_d20_17 : decode prog_7_method_2_code 17 = .ok (.getfield 13, 3) := by decide +kernel
theorem own_d20_20 : decode prog_7_method_2_code 20 = .ok (.iload_n 1, 1) := by decide +kernel
theorem own_d20_21 : decode prog_7_method_2_code 21 = .ok (.iload_n 2, 1) := by decide +kernel
theorem own_d20_22 : decode prog_7_method_2_code 22 = .ok (.iastore, 1) := by decide +kernel
theorem own_d20_23 : decode prog_7_method_2_code 23 = .ok (.aload_n 0, 1) := by decide +kernel
theorem own_d20_24 : decode prog_7_method_2_code 24 = .ok (.getfield 17, 3) := by decide +kernel
theorem own_d20_27 : decode prog_7_method_2_code 27 = .ok (.aload_n 0, 1) := by decide +kernel
theorem own_d20_28 : decode prog_7_method_2_code 28 = .ok (.getfield 20, 3) := by decide +kernel
theorem own_d20_31 : decode prog_7_method_2_code 31 = .ok (.iload_n 1, 1) := by decide +kernel
theorem own_d20_32 : decode prog_7_method_2_code 32 = .ok (.iastore, 1) := by decide +kernel
theorem own_d20_33 : decode prog_7_method_2_code 33 = .ok (.aload_n 0, 1) := by decide +kernel
theorem own_d20_34 : decode prog_7_method_2_code 34 = .ok (.dup, 1) := by decide +kernel
theorem own_d20_35 : decode prog_7_method_2_code 35 = .ok (.getfield 20, 3) := by decide +kernel
theorem own_d20_38 : decode prog_7_method_2_code 38 = .ok (.iconst 1, 1) := by decide +kernel
theorem own_d20_39 : decode prog_7_method_2_code 39 = .ok (.iadd, 1) := by decide +kernel
theorem own_d20_40 : decode prog_7_method_2_code 40 = .ok (.putfield 20, 3) := by decide +kernel
theorem own_d20_43 : decode prog_7_method_2_code 43 = .ok (.return_, 1) := by decide +kernel
theorem own_ef_own_rm20_s1 (m : MethodId) (x0 : Addr) : entryFrame m #[(.ref x0), (.int 2), (.int (-1))] 3 = mkF m 0 #[.val (.ref x0), .val (.int 2), .val (.int (-1))] [] := by first | (simp [entryFrame, mkF, argsToLocals, Value.category]; done) | rfl
def own_Q20_s1 (Z : State) (a_1 : Addr) (ob2 : Addr) (ob1 : Addr) (ob0 : Addr) (h0 : Heap) (n0 : Nat) (v : Option Value) (h : Heap) (L : List Loc) : Prop := v = none ∧ Fr n0 L ∧ Keep h0 h [ob0, ob1, ob2, a_1] ∧ own_AV Z h ob0 .boolean (3 : Int32) (own_upd (fun _ => (.int 0)) 2 (.int 1)) ∧ own_AV Z h ob1 .int 3 (own_upd (fun _ => (.int 0)) 2 (.int (-1))) ∧ own_AV Z h ob2 .int 3 (own_upd (fun _ => (.int 0)) 0 (.int 2)) ∧ Exa Z h a_1 own_N0 ∧ Fld Z h a_1 own_N0 "order" "[I" (.ref ob2) ∧ Fld Z h a_1 own_N0 "reasons" "[I" (.ref ob1) ∧ Fld Z h a_1 own_N0 "size" "I" (.int 1) ∧ Fld Z h a_1 own_N0 "values" "[Z" (.ref ob0)
set_option maxRecDepth 65536 in
set_option maxHeartbeats 40000000 in
theorem own_rm20_s1 (l : Launch) (Z : State) (a0 : Array Value) (hw : ∀ d ∈ tables_1, d.before a0 Z = true) (ws : List Jvm.Cond) (a_1 : Addr) (ob2 : Addr) (ob1 : Addr) (ob0 : Addr) (h0 : Heap) (n0 : Nat) (Z0 : n0 ≤ h0.size) (pr_A_ob0 : own_AV Z h0 ob0 .boolean (3 : Int32) (fun _ => (.int 0))) (pr_A_ob1 : own_AV Z h0 ob1 .int 3 (fun _ => (.int 0))) (pr_A_ob2 : own_AV Z h0 ob2 .int 3 (fun _ => (.int 0))) (pr_E_a_1 : Exa Z h0 a_1 own_N0) (pr_F_a_1_order : Fld Z h0 a_1 own_N0 "order" "[I" (.ref ob2)) (pr_F_a_1_reasons : Fld Z h0 a_1 own_N0 "reasons" "[I" (.ref ob1)) (pr_F_a_1_size : Fld Z h0 a_1 own_N0 "size" "I" (.int 0)) (pr_F_a_1_values : Fld Z h0 a_1 own_N0 "values" "[Z" (.ref ob0)) (ho_ : own_lts [a_1, ob0, ob1, ob2]) (gw_ob0 : n0 ≤ ob0) (gw_ob1 : n0 ≤ ob1) (gw_ob2 : n0 ≤ ob2) (gw_a_1 : n0 ≤ a_1) :
    MetFree l (⟨own_N0, "assign", "(II)V"⟩ : MethodName) (head1 (Jvm.Cond.code (⟨own_N0, "assign", "(II)V"⟩ : MethodName) prog_7_method_2_code 3 none :: ws) ({ frames := 0, cells := 0, slots := 0, locals := 0 } : Room)) (fun a U => a = #[(.ref a_1), (.int 2), (.int (-1))] ∧ Z.Warmed39 U.vm ∧ U.heap = h0) (fun _ _ _ _ _ => True) (fun _ U o U' => ∃ v L, o = .returned v ∧ own_Q20_s1 Z a_1 ob2 ob1 ob0 h0 n0 v U'.heap L ∧ FrameEnd U o U' L ({ frames := 0, cells := 0, slots := 0, locals := 0 } : Room).cells ({ frames := 0, cells := 0, slots := 0, locals := 0 } : Room).slots) := by
  refine MetFree.of_bodySF (plainFor_of_name own_pn3) hisR ?_
  intro p e s m args below meth c s₁ Bd hml0 hP hK
  obtain ⟨rfl, hZ, hh⟩ := hP
  have hx := Bd.exec
  have hby := Bd.bytes
  have hml : c.maxLocals = 3 := hml0
  have hown : s.vm.findClass own_N0 = some m.cls := findClass_of_methodNamed Bd.named
  have hnm := (name_of_methodNamed Bd.named Bd.method).1
  have X0 : Stand p l e ({ frames := 0, cells := 0, slots := 0, locals := 0 } : Room) s m #[(.ref a_1), (.int 2), (.int (-1))] below meth c s₁ [] 0 0 := Stand.of_body Bd
  have e0 : s₁.heap = h0 := by rw [← hh, Bd.state]; rfl
  have N0 := Fr.nil n0
  have z0 : n0 ≤ h0.size := Z0
  have z1 := own_lt pr_A_ob0.lt
  have z2 := own_lt pr_A_ob1.lt
  have z3 := own_lt pr_A_ob2.lt
  have z4 := own_lt pr_E_a_1.lt
  have z5 := own_lt pr_F_a_1_order.lt
  have z6 := own_lt pr_F_a_1_reasons.lt
  have z7 := own_lt pr_F_a_1_size.lt
  have z8 := own_lt pr_F_a_1_values.lt
  have ho9 := ho_
  simp only [own_lts, and_true] at ho9
  have K0 : Keep h0 h0 [ob0, ob1, ob2, a_1] := Keep.refl h0 _
  show own_Go p.tables e below (fun t o => t.status = .running ∧ Ended t below o ∧ ∃ v L, o = .returned v ∧ own_Q20_s1 Z a_1 ob2 ob1 ob0 h0 n0 v t.heap L ∧ FrameEnd s o t L ({ frames := 0, cells := 0, slots := 0, locals := 0 } : Room).cells ({ frames := 0, cells := 0, slots := 0, locals := 0 } : Room).slots) s₁ (entryFrame m #[(.ref a_1), (.int 2), (.int (-1))] 3)
  rw [own_ef_own_rm20_s1 m a_1]
  show own_Go _ _ _ _ s₁ (mkF m 0 #[.val (.ref a_1), .val (.int 2), .val (.int (-1))] [])
  refine own_go (fun _ k => XS.aloadN X0.here hx rfl (hb hby own_d20_0) rfl rfl k) ?_
  obtain ⟨T10, X10, e10, st10⟩ := getF X0 hx hZ hown (host := "") (Or.inl (own_w118 hw)) Via.refl e0 pr_F_a_1_values (g := (mkF m 1 #[.val (.ref a_1), .val (.int 2), .val (.int (-1))] [(.ref a_1)])) rfl rfl (hb hby own_d20_1)
  refine own_go (fun _ k => st10 _ k) ?_
  show own_Go _ _ _ _ T10 (mkF m 4 #[.val (.ref a_1), .val (.int 2), .val (.int (-1))] [(.ref ob0)])
  refine own_go (fun _ k => XS.iloadN X10.here hx rfl (hb hby own_d20_4) rfl k) ?_
  obtain ⟨q11, c11, R11, s11, t11⟩ := id pr_A_ob0
  have hin11 : ¬ ((2 : Int32) < 0 ∨ c11.slots.size ≤ ((2 : Int32)).toNatClampNeg) := inb_of s11 ⟨by decide, by decide⟩
  have u11 : c11.slots[((2 : Int32)).toNatClampNeg]? = some (.int 0) := own_at (k := 2) t11 s11 hin11 (by decide) (rfl)
  refine own_go (fun _ k => X10.baloadBooleans hx (j := (2 : Int32)) (v := (.int 0)) (by rw [e10]; exact R11.1) (State.isArrayOf_alike hZ.alike R11.2.1) R11.2.2 hin11 u11 (g := (mkF m 5 #[.val (.ref a_1), .val (.int 2), .val (.int (-1))] [(.int 2), (.ref ob0)])) rfl rfl (hb hby own_d20_5) _ k) ?_
  show own_Go _ _ _ _ T10 (mkF m 6 #[.val (.ref a_1), .val (.int 2), .val (.int (-1))] [(.int 0)])
  have hc12 : (0 : Int32) = 0 := by decide
  refine own_go (fun _ k => XS.ifNo X10.here hx rfl (hb hby own_d20_6) rfl (Jvm.Free.XT.i0_ne_f hc12) (XS.aloadN X10.here hx rfl (hb hby own_d20_9) rfl rfl k)) ?_
  obtain ⟨T13, X13, e13, st13⟩ := getF X10 hx hZ hown (host := "") (Or.inl (own_w118 hw)) Via.refl e10 pr_F_a_1_values (g := (mkF m 10 #[.val (.ref a_1), .val (.int 2), .val (.int (-1))] [(.ref a_1)])) rfl rfl (hb hby own_d20_10)
  refine own_go (fun _ k => st13 _ k) ?_
  show own_Go _ _ _ _ T13 (mkF m 13 #[.val (.ref a_1), .val (.int 2), .val (.int (-1))] [(.ref ob0)])
  refine own_go (fun _ k => XS.iloadN X13.here hx rfl (hb hby own_d20_13) rfl (XS.iconst X13.here hx rfl (hb hby own_d20_14) k)) ?_
  obtain ⟨q14, c14, R14, s14, t14⟩ := id pr_A_ob0
  have hin14 : ¬ ((2 : Int32) < 0 ∨ c14.slots.size ≤ ((2 : Int32)).toNatClampNeg) := inb_of s14 ⟨by decide, by decide⟩
  obtain ⟨T15, h15, X15, e15, W15, st15⟩ := stZ X13 hx hZ e13 R14 (j := (2 : Int32)) hin14 (g := (mkF m 15 #[.val (.ref a_1), .val (.int 2), .val (.int (-1))] [(.int 1), (.int 2), (.ref ob0)])) rfl rfl (hb hby own_d20_15)
  rw [(show nar .boolean (1 : Int32) = (1 : Int32) from rfl)] at W15
  have V15 : own_AV Z h15 ob0 .boolean (3 : Int32) (own_upd (fun _ => (.int 0)) 2 (.int 1)) := own_AV.set (k := 2) pr_A_ob0 W15 (by decide)
  have z16 := W15.size
  have K15 : Keep h0 h15 [ob0, ob1, ob2, a_1] := K0.wr W15 (Or.inl (List.mem_of_getElem? (i := 0) rfl))
  have N15 := Fr.snoc X15 N0 (by omega : n0 ≤ ob0)
  refine own_go (fun _ k => st15 _ k) ?_
  show own_Go _ _ _ _ T15 (mkF m 16 #[.val (.ref a_1), .val (.int 2), .val (.int (-1))] [])
  refine own_go (fun _ k => XS.aloadN X15.here hx rfl (hb hby own_d20_16) rfl rfl k) ?_
  have f17 := (pr_F_a_1_reasons.other W15 (Or.inl (own_ne (by omega))))
  obtain ⟨T18, X18, e18, st18⟩ := getF X15 hx hZ hown (host := "") (Or.inl (hw _ (List.mem_of_getElem? (i := 120) rfl))) Via.refl e15 f17 (g := (mkF m 17 #[.val (.ref a_1), .val (.int 2), .val (.int (-1))] [(.ref a_1)])) rfl rfl (hb hby own_d20_17)
  refine own_go (fun _ k => st18 _ k) ?_
  show own_Go _ _ _ _ T18 (mkF m 20 #[.val (.ref a_1), .val (.int 2), .val (.int (-1))] [(.ref ob1)])
  refine own_go (fun _ k => XS.iloadN X18.here hx rfl (hb hby own_d20_20) rfl (XS.iloadN X18.here hx rfl (hb hby own_d20_21) rfl k)) ?_
  have f19 := (pr_A_ob1.other W15 (own_ne (by omega)))
  obtain ⟨q20, c20, R20, s20, t20⟩ := id f19
  have hin20 : ¬ ((2 : Int32) < 0 ∨ c20.slots.size ≤ ((2 : Int32)).toNatClampNeg) := inb_of s20 ⟨by decide, by decide⟩
  obtain ⟨T21, h21, X21, e21, W21, st21⟩ := stI X18 hx hZ e18 R20 (j := (2 : Int32)) hin20 (g := (mkF m 22 #[.val (.ref a_1), .val (.int 2), .val (.int (-1))] [(.int (-1)), (.int 2), (.ref ob1)])) rfl rfl (hb hby own_d20_22)
  have V21 : own_AV Z h21 ob1 .int 3 (own_upd (fun _ => (.int 0)) 2 (.int (-1))) := own_AV.set (k := 2) f19 W21 (by decide)
  have z22 := W21.size
  have K21 : Keep h0 h21 [ob0, ob1, ob2, a_1] := K15.wr W21 (Or.inl (List.mem_of_getElem? (i := 1) rfl))
  have N21 := Fr.snoc X21 N15 (by omega : n0 ≤ ob1)
  refine own_go (fun _ k => st21 _ k) ?_
  show own_Go _ _ _ _ T21 (mkF m 23 #[.val (.ref a_1), .val (.int 2), .val (.int (-1))] [])
  refine own_go (fun _ k => XS.aloadN X21.here hx rfl (hb hby own_d20_23) rfl rfl k) ?_
  have f23 := ((pr_F_a_1_order.other W15 (Or.inl (own_ne (by omega)))).other W21 (Or.inl (own_ne (by omega))))
  obtain ⟨T24, X24, e24, st24⟩ := getF X21 hx hZ hown (host := "") (Or.inl (own_w122 hw)) Via.refl e21 f23 (g := (mkF m 24 #[.val (.ref a_1), .val (.int 2), .val (.int (-1))] [(.ref a_1)])) rfl rfl (hb hby own_d20_24)
  refine own_go (fun _ k => st24 _ k) ?_
  show own_Go _ _ _ _ T24 (mkF m 27 #[.val (.ref a_1), .val (.int 2), .val (.int (-1))] [(.ref ob2)])
  refine own_go (fun _ k => XS.aloadN X24.here hx rfl (hb hby own_d20_27) rfl rfl k) ?_
  have f25 := ((pr_F_a_1_size.other W15 (Or.inl (own_ne (by omega)))).other W21 (Or.inl (own_ne (by omega))))
  obtain ⟨T26, X26, e26, st26⟩ := getF X24 hx hZ hown (host := "") (Or.inl (own_w129 hw)) Via.refl e24 f25 (g := (mkF m 28 #[.val (.ref a_1), .val (.int 2), .val (.int (-1))] [(.ref a_1), (.ref ob2)])) rfl rfl (hb hby own_d20_28)
  refine own_go (fun _ k => st26 _ k) ?_
  show own_Go _ _ _ _ T26 (mkF m 31 #[.val (.ref a_1), .val (.int 2), .val (.int (-1))] [(.int 0), (.ref ob2)])
  refine own_go (fun _ k => XS.iloadN X26.here hx rfl (hb hby own_d20_31) rfl k) ?_
  have f27 := ((pr_A_ob2.other W15 (own_ne (by omega))).other W21 (own_ne (by omega)))
  obtain ⟨q28, c28, R28, s28, t28⟩ := id f27
  have hin28 : ¬ ((0 : Int32) < 0 ∨ c28.slots.size ≤ ((0 : Int32)).toNatClampNeg) := inb_of s28 ⟨by decide, by decide⟩
  obtain ⟨T29, h29, X29, e29, W29, st29⟩ := stI X26 hx hZ e26 R28 (j := (0 : Int32)) hin28 (g := (mkF m 32 #[.val (.ref a_1), .val (.int 2), .val (.int (-1))] [(.int 2), (.int 0), (.ref ob2)])) rfl rfl (hb hby own_d20_32)
  have V29 : own_AV Z h29 ob2 .int 3 (own_upd (fun _ => (.int 0)) 0 (.int 2)) := own_AV.set (k := 0) f27 W29 (by decide)
  have z30 := W29.size
  have K29 : Keep h0 h29 [ob0, ob1, ob2, a_1] := K21.wr W29 (Or.inl (List.mem_of_getElem? (i := 2) rfl))
  have N29 := Fr.snoc X29 N21 (by omega : n0 ≤ ob2)
  refine own_go (fun _ k => st29 _ k) ?_
  show own_Go _ _ _ _ T29 (mkF m 33 #[.val (.ref a_1), .val (.int 2), .val (.int (-1))] [])
  refine own_go (fun _ k => XS.aloadN X29.here hx rfl (hb hby own_d20_33) rfl rfl (XS.dup X29.here hx rfl (hb hby own_d20_34) rfl rfl k)) ?_
  have f31 := (f25.other W29 (Or.inl (own_ne (by omega))))
  obtain ⟨T32, X32, e32, st32⟩ := getF X29 hx hZ hown (host := "") (Or.inl (own_w129 hw)) Via.refl e29 f31 (g := (mkF m 35 #[.val (.ref a_1), .val (.int 2), .val (.int (-1))] [(.ref a_1), (.ref a_1)])) rfl rfl (hb hby own_d20_35)
  refine own_go (fun _ k => st32 _ k) ?_
  show own_Go _ _ _ _ T32 (mkF m 38 #[.val (.ref a_1), .val (.int 2), .val (.int (-1))] [(.int 0), (.ref a_1)])
  refine own_go (fun _ k => XS.iconst X32.here hx rfl (hb hby own_d20_38) (XS.iadd X32.here hx rfl (hb hby own_d20_39) rfl k)) ?_
  have f33 := (((pr_E_a_1.wr W15).wr W21).wr W29)
  obtain ⟨T34, h34, X34, e34, W34, st34⟩ := putF X32 hx hZ hown (host := "") (Or.inl (own_w129 hw)) Via.refl e32 f31 f33 (Or.inl (own_w130 hw)) (own_w111 hw) (ty := .int) (by decide) rfl rfl (g := (mkF m 40 #[.val (.ref a_1), .val (.int 2), .val (.int (-1))] [(.int 1), (.ref a_1)])) rfl rfl (hb hby own_d20_40)
  have z35 := W34.size
  have K34 : Keep h0 h34 [ob0, ob1, ob2, a_1] := K29.wr W34 (Or.inl (List.mem_of_getElem? (i := 3) rfl))
  have N34 := Fr.snoc X34 N29 (by omega : n0 ≤ a_1)
  have Fw34 : Fld Z h34 a_1 own_N0 "size" "I" (.int 1) := Fld.same W34 f31
  refine own_go (fun _ k => st34 _ k) ?_
  show own_Go _ _ _ _ T34 (mkF m 43 #[.val (.ref a_1), .val (.int 2), .val (.int (-1))] [])
  obtain ⟨fs, hr, hrun, hended, hW, hsame⟩ := X34.leave (v := none) (fun _ => rfl)
  refine ⟨_, _, X34.returnOut hx Bd.returns (hb hby own_d20_43) hr, hrun, hended, _, _, rfl, ?_, ⟨_, rfl⟩, hW, hsame.mono (by decide) (by decide)⟩
  show own_Q20_s1 Z a_1 ob2 ob1 ob0 h0 n0 _ T34.heap _
  rw [e34]
  have f37 := (((V15.other W21 (own_ne (by omega))).other W29 (own_ne (by omega))).other W34 (own_ne (by omega)))
  have f38 := ((V21.other W29 (own_ne (by omega))).other W34 (own_ne (by omega)))
  have f39 := (V29.other W34 (own_ne (by omega)))
  have f40 := (f33.wr W34)
  have f41 := ((f23.other W29 (Or.inl (own_ne (by omega)))).other W34 (Or.inr (slot_ne (Or.inr (own_w123 hw)) (Or.inl (own_w130 hw)) (by decide) (t := (.array .int)) (t' := .int) (by decide) (by decide))))
  have f42 := (((f17.other W21 (Or.inl (own_ne (by omega)))).other W29 (Or.inl (own_ne (by omega)))).other W34 (Or.inr (slot_ne (Or.inr (own_w121 hw)) (Or.inl (own_w130 hw)) (by decide) (t := (.array .int)) (t' := .int) (by decide) (by decide))))
  have f43 := ((((pr_F_a_1_values.other W15 (Or.inl (own_ne (by omega)))).other W21 (Or.inl (own_ne (by omega)))).other W29 (Or.inl (own_ne (by omega)))).other W34 (Or.inr (slot_ne (Or.inr (own_w119 hw)) (Or.inl (own_w130 hw)) (by decide) (t := (.array .boolean)) (t' := .int) (by decide) (by decide))))
  exact ⟨rfl, N34, K34, f37, f38, f39, f40, f41, f42, Fw34, f43⟩
theorem own_d21_0 : decode prog_7_method_3_code 0 = .ok (.aload_n 0, 1) := by decide +kernel
theorem own_d21_1 : decode prog_7_method_3_code 1 = .ok (.getfield 7, 3) := by decide +kernel
theorem own_d21_4 : decode prog_7_method_3_code 4 = .ok (.iload_n 1, 1) := by decide +kernel
theorem own_d21_5 : decode prog_7_method_3_code 5 = .ok (.baload, 1) := by decide +kernel
theorem own_d21_6 : decode prog_7_method_3_code 6 = .ok (.ireturn, 1) := by decide +kernel
theorem own_ef_own_rm21_s1 (m : MethodId) (x0 : Addr) : entryFrame m #[(.ref x0), (.int 1)] 2 = mkF m 0 #[.val (.ref x0), .val (.int 1)] [] := by first | (simp [entryFrame, mkF, argsToLocals, Value.category]; done) | rfl
def own_Q21_s1 (Z : State) (a_1 : Addr) (ob0 : Addr) (h0 : Heap) (n0 : Nat) (v : Option Value) (h : Heap) (L : List Loc) : Prop := v = some (.int 0) ∧ Fr n0 L ∧ h = h0
set_option maxRecDepth 65536 in
set_option maxHeartbeats 40000000 in
theorem own_rm21_s1 (l : Launch) (Z : State) (a0 : Array Value) (hw : ∀ d ∈ tables_1, d.before a0 Z = true) (ws : List Jvm.Cond) (a_1 : Addr) (ob0 : Addr) (h0 : Heap) (n0 : Nat) (Z0 : n0 ≤ h0.size) (pr_A_ob0 : own_AV Z h0 ob0 .boolean (3 : Int32) (own_upd (fun _ => (.int 0)) 2 (.int 1))) (pr_F_a_1_values : Fld Z h0 a_1 own_N0 "values" "[Z" (.ref ob0)) (ho_ : own_lts [a_1, ob0]) :
    MetFree l (⟨own_N0, "isTrue", "(I)Z"⟩ : MethodName) (head1 (Jvm.Cond.code (⟨own_N0, "isTrue", "(I)Z"⟩ : MethodName) prog_7_method_3_code 2 (some .boolean) :: ws) ({ frames := 0, cells := 0, slots := 0, locals := 0 } : Room)) (fun a U => a = #[(.ref a_1), (.int 1)] ∧ Z.Warmed39 U.vm ∧ U.heap = h0) (fun _ _ _ _ _ => True) (fun _ U o U' => ∃ v L, o = .returned v ∧ own_Q21_s1 Z a_1 ob0 h0 n0 v U'.heap L ∧ FrameEnd U o U' L ({ frames := 0, cells := 0, slots := 0, locals := 0 } : Room).cells ({ frames := 0, cells := 0, slots := 0, locals := 0 } : Room).slots) := by
  refine MetFree.of_bodySF (plainFor_of_name own_pn3) hisR ?_
  intro p e s m args below meth c s₁ Bd hml0 hP hK
  obtain ⟨rfl, hZ, hh⟩ := hP
  have hx := Bd.exec
  have hby := Bd.bytes
  have hml : c.maxLocals = 2 := hml0
  have hown : s.vm.findClass own_N0 = some m.cls := findClass_of_methodNamed Bd.named
  have hnm := (name_of_methodNamed Bd.named Bd.method).1
  have X0 : Stand p l e ({ frames := 0, cells := 0, slots := 0, locals := 0 } : Room) s m #[(.ref a_1), (.int 1)] below meth c s₁ [] 0 0 := Stand.of_body Bd
  have e0 : s₁.heap = h0 := by rw [← hh, Bd.state]; rfl
  have N0 := Fr.nil n0
  have z0 : n0 ≤ h0.size := Z0
  have z1 := own_lt pr_A_ob0.lt
  have z2 := own_lt pr_F_a_1_values.lt
  have ho3 := ho_
  simp only [own_lts, and_true] at ho3
  show own_Go p.tables e below (fun t o => t.status = .running ∧ Ended t below o ∧ ∃ v L, o = .returned v ∧ own_Q21_s1 Z a_1 ob0 h0 n0 v t.heap L ∧ FrameEnd s o t L ({ frames := 0, cells := 0, slots := 0, locals := 0 } : Room).cells ({ frames := 0, cells := 0, slots := 0, locals := 0 } : Room).slots) s₁ (entryFrame m #[(.ref a_1), (.int 1)] 2)
  rw [own_ef_own_rm21_s1 m a_1]
  show own_Go _ _ _ _ s₁ (mkF m 0 #[.val (.ref a_1), .val (.int 1)] [])
  refine own_go (fun _ k => XS.aloadN X0.here hx rfl (hb hby own_d21_0) rfl rfl k) ?_
  obtain ⟨T4, X4, e4, st4⟩ := getF X0 hx hZ hown (host := "") (Or.inl (own_w118 hw)) Via.refl e0 pr_F_a_1_values (g := (mkF m 1 #[.val (.ref a_1), .val (.int 1)] [(.ref a_1)])) rfl rfl (hb hby own_d21_1)
  refine own_go (fun _ k => st4 _ k) ?_
  show own_Go _ _ _ _ T4 (mkF m 4 #[.val (.ref a_1), .val (.int 1)] [(.ref ob0)])
  refine own_go (fun _ k => XS.iloadN X4.here hx rfl (hb hby own_d21_4) rfl k) ?_
  obtain ⟨q5, c5, R5, s5, t5⟩ := id pr_A_ob0
  have hin5 : ¬ ((1 : Int32) < 0 ∨ c5.slots.size ≤ ((1 : Int32)).toNatClampNeg) := inb_of s5 ⟨by decide, by decide⟩
  have u5 : c5.slots[((1 : Int32)).toNatClampNeg]? = some (.int 0) := own_at (k := 1) t5 s5 hin5 (by decide) (rfl)
  refine own_go (fun _ k => X4.baloadBooleans hx (j := (1 : Int32)) (v := (.int 0)) (by rw [e4]; exact R5.1) (State.isArrayOf_alike hZ.alike R5.2.1) R5.2.2 hin5 u5 (g := (mkF m 5 #[.val (.ref a_1), .val (.int 1)] [(.int 1), (.ref ob0)])) rfl rfl (hb hby own_d21_5) _ k) ?_
  show own_Go _ _ _ _ T4 (mkF m 6 #[.val (.ref a_1), .val (.int 1)] [(.int 0)])
  obtain ⟨fs, hr, hrun, hended, hW, hsame⟩ := X4.leave (v := some (.int 0)) (fun h => by rw [Bd.returns] at h; cases h)
  refine ⟨_, _, retOut X4 hx Bd.returns rfl (Or.inl ⟨rfl, Or.inr (Or.inl rfl), _, rfl⟩) (hb hby own_d21_6) hr, hrun, hended, _, _, rfl, ?_, ⟨_, rfl⟩, hW, hsame.mono (by decide) (by decide)⟩
  show own_Q21_s1 Z a_1 ob0 h0 n0 _ T4.heap _
  rw [e4]
  exact ⟨rfl, N0, rfl⟩
theorem own_d22_0 : decode prog_7_method_5_code 0 = .ok (.aload_n 0, 1) := by decide +kernel
theorem own_d22_1 : decode prog_7_method_5_code 1 = .ok (.getfield 20, 3) := by decide +kernel
theorem own_d22_4 : decode prog_7_method_5_code 4 = .ok (.ireturn, 1) := by decide +kernel
theorem own_ef_own_rm22_s1 (m : MethodId) (x0 : Addr) : entryFrame m #[(.ref x0)] 1 = mkF m 0 #[.val (.ref x0)] [] := by first | (simp [entryFrame, mkF, argsToLocals, Value.category]; done) | rfl
def own_Q22_s1 (Z : State) (a_1 : Addr) (h0 : Heap) (n0 : Nat) (v : Option Value) (h : Heap) (L : List Loc) : Prop := v = some (.int 1) ∧ Fr n0 L ∧ h = h0
set_option maxRecDepth 65536 in
set_option maxHeartbeats 40000000 in
theorem own_rm22_s1 (l : Launch) (Z : State) (a0 : Array Value) (hw : ∀ d ∈ tables_1, d.before a0 Z = true) (ws : List Jvm.Cond) (a_1 : Addr) (h0 : Heap) (n0 : Nat) (Z0 : n0 ≤ h0.size) (pr_F_a_1_size : Fld Z h0 a_1 own_N0 "size" "I" (.int 1)) :
    MetFree l (⟨own_N0, "size", "()I"⟩ : MethodName) (head1 (Jvm.Cond.code (⟨own_N0, "size", "()I"⟩ : MethodName) prog_7_method_5_code 1 (some .int) :: ws) ({ frames := 0, cells := 0, slots := 0, locals := 0 } : Room)) (fun a U => a = #[(.ref a_1)] ∧ Z.Warmed39 U.vm ∧ U.heap = h0) (fun _ _ _ _ _ => True) (fun _ U o U' => ∃ v L, o = .returned v ∧ own_Q22_s1 Z a_1 h0 n0 v U'.heap L ∧ FrameEnd U o U' L ({ frames := 0, cells := 0, slots := 0, locals := 0 } : Room).cells ({ frames := 0, cells := 0, slots := 0, locals := 0 } : Room).slots) := by
  refine MetFree.of_bodySF (plainFor_of_name own_pn3) hisR ?_
  intro p e s m args below meth c s₁ Bd hml0 hP hK
  obtain ⟨rfl, hZ, hh⟩ := hP
  have hx := Bd.exec
  have hby := Bd.bytes
  have hml : c.maxLocals = 1 := hml0
  have hown : s.vm.findClass own_N0 = some m.cls := findClass_of_methodNamed Bd.named
  have hnm := (name_of_methodNamed Bd.named Bd.method).1
  have X0 : Stand p l e ({ frames := 0, cells := 0, slots := 0, locals := 0 } : Room) s m #[(.ref a_1)] below meth c s₁ [] 0 0 := Stand.of_body Bd
  have e0 : s₁.heap = h0 := by rw [← hh, Bd.state]; rfl
  have N0 := Fr.nil n0
  have z0 : n0 ≤ h0.size := Z0
  have z1 := own_lt pr_F_a_1_size.lt
  show own_Go p.tables e below (fun t o => t.status = .running ∧ Ended t below o ∧ ∃ v L, o = .returned v ∧ own_Q22_s1 Z a_1 h0 n0 v t.heap L ∧ FrameEnd s o t L ({ frames := 0, cells := 0, slots := 0, locals := 0 } : Room).cells ({ frames := 0, cells := 0, slots := 0, locals := 0 } : Room).slots) s₁ (entryFrame m #[(.ref a_1)] 1)
  rw [own_ef_own_rm22_s1 m a_1]
  show own_Go _ _ _ _ s₁ (mkF m 0 #[.val (.ref a_1)] [])
  refine own_go (fun _ k => XS.aloadN X0.here hx rfl (hb hby own_d22_0) rfl rfl k) ?_
  obtain ⟨T2, X2, e2, st2⟩ := getF X0 hx hZ hown (host := "") (Or.inl (own_w129 hw)) Via.refl e0 pr_F_a_1_size (g := (mkF m 1 #[.val (.ref a_1)] [(.ref a_1)])) rfl rfl (hb hby own_d22_1)
  refine own_go (fun _ k => st2 _ k) ?_
  show own_Go _ _ _ _ T2 (mkF m 4 #[.val (.ref a_1)] [(.int 1)])
  obtain ⟨fs, hr, hrun, hended, hW, hsame⟩ := X2.leave (v := some (.int 1)) (fun h => by rw [Bd.returns] at h; cases h)
  refine ⟨_, _, retOut X2 hx Bd.returns rfl (Or.inl ⟨rfl, Or.inl rfl, _, rfl⟩) (hb hby own_d22_4) hr, hrun, hended, _, _, rfl, ?_, ⟨_, rfl⟩, hW, hsame.mono (by decide) (by decide)⟩
  show own_Q22_s1 Z a_1 h0 n0 _ T2.heap _
  rw [e2]
  exact ⟨rfl, N0, rfl⟩
theorem own_d23_0 : decode prog_7_method_6_code 0 = .ok (.aload_n 0, 1) := by decide +kernel
theorem own_d23_1 : decode prog_7_method_6_code 1 = .ok (.getfield 17, 3) := by decide +kernel
theorem own_d23_4 : decode prog_7_method_6_code 4 = .ok (.iload_n 1, 1) := by decide +kernel
theorem own_d23_5 : decode prog_7_method_6_code 5 = .ok (.iaload, 1) := by decide +kernel
theorem own_d23_6 : decode prog_7_method_6_code 6 = .ok (.ireturn, 1) := by decide +kernel
theorem own_ef_own_rm23_s1 (m : MethodId) (x0 : Addr) : entryFrame m #[(.ref x0), (.int 0)] 2 = mkF m 0 #[.val (.ref x0), .val (.int 0)] [] := by first | (simp [entryFrame, mkF, argsToLocals, Value.category]; done) | rfl
def own_Q23_s1 (Z : State) (a_1 : Addr) (ob0 : Addr) (h0 : Heap) (n0 : Nat) (v : Option Value) (h : Heap) (L : List Loc) : Prop := v = some (.int 2) ∧ Fr n0 L ∧ h = h0
set_option maxRecDepth 65536 in
set_option maxHeartbeats 40000000 in
theorem own_rm23_s1 (l : Launch) (Z : State) (a0 : Array Value) (hw : ∀ d ∈ tables_1, d.before a0 Z = true) (ws : List Jvm.Cond) (a_1 : Addr) (ob0 : Addr) (h0 : Heap) (n0 : Nat) (Z0 : n0 ≤ h0.size) (pr_A_ob0 : own_AV Z h0 ob0 .int 3 (own_upd (fun _ => (.int 0)) 0 (.int 2))) (pr_F_a_1_order : Fld Z h0 a_1 own_N0 "order" "[I" (.ref ob0)) (ho_ : own_lts [a_1, ob0]) :
    MetFree l (⟨own_N0, "get", "(I)I"⟩ : MethodName) (head1 (Jvm.Cond.code (⟨own_N0, "get", "(I)I"⟩ : MethodName) prog_7_method_6_code 2 (some .int) :: ws) ({ frames := 0, cells := 0, slots := 0, locals := 0 } : Room)) (fun a U => a = #[(.ref a_1), (.int 0)] ∧ Z.Warmed39 U.vm ∧ U.heap = h0) (fun _ _ _ _ _ => True) (fun _ U o U' => ∃ v L, o = .returned v ∧ own_Q23_s1 Z a_1 ob0 h0 n0 v U'.heap L ∧ FrameEnd U o U' L ({ frames := 0, cells := 0, slots := 0, locals := 0 } : Room).cells ({ frames := 0, cells := 0, slots := 0, locals := 0 } : Room).slots) := by
  refine MetFree.of_bodySF (plainFor_of_name own_pn3) hisR ?_
  intro p e s m args below meth c s₁ Bd hml0 hP hK
  obtain ⟨rfl, hZ, hh⟩ := hP
  have hx := Bd.exec
  have hby := Bd.bytes
  have hml : c.maxLocals = 2 := hml0
  have hown : s.vm.findClass own_N0 = some m.cls := findClass_of_methodNamed Bd.named
  have hnm := (name_of_methodNamed Bd.named Bd.method).1
  have X0 : Stand p l e ({ frames := 0, cells := 0, slots := 0, locals := 0 } : Room) s m #[(.ref a_1), (.int 0)] below meth c s₁ [] 0 0 := Stand.of_body Bd
  have e0 : s₁.heap = h0 := by rw [← hh, Bd.state]; rfl
  have N0 := Fr.nil n0
  have z0 : n0 ≤ h0.size := Z0
  have z1 := own_lt pr_A_ob0.lt
  have z2 := own_lt pr_F_a_1_order.lt
  have ho3 := ho_
  simp only [own_lts, and_true] at ho3
  show own_Go p.tables e below (fun t o => t.status = .running ∧ Ended t below o ∧ ∃ v L, o = .returned v ∧ own_Q23_s1 Z a_1 ob0 h0 n0 v t.heap L ∧ FrameEnd s o t L ({ frames := 0, cells := 0, slots := 0, locals := 0 } : Room).cells ({ frames := 0, cells := 0, slots := 0, locals := 0 } : Room).slots) s₁ (entryFrame m #[(.ref a_1), (.int 0)] 2)
  rw [own_ef_own_rm23_s1 m a_1]
  show own_Go _ _ _ _ s₁ (mkF m 0 #[.val (.ref a_1), .val (.int 0)] [])
  refine own_go (fun _ k => XS.aloadN X0.here hx rfl (hb hby own_d23_0) rfl rfl k) ?_
  obtain ⟨T4, X4, e4, st4⟩ := getF X0 hx hZ hown (host := "") (Or.inl (own_w122 hw)) Via.refl e0 pr_F_a_1_order (g := (mkF m 1 #[.val (.ref a_1), .val (.int 0)] [(.ref a_1)])) rfl rfl (hb hby own_d23_1)
  refine own_go (fun _ k => st4 _ k) ?_
  show own_Go _ _ _ _ T4 (mkF m 4 #[.val (.ref a_1), .val (.int 0)] [(.ref ob0)])
  refine own_go (fun _ k => XS.iloadN X4.here hx rfl (hb hby own_d23_4) rfl k) ?_
  obtain ⟨q5, c5, R5, s5, t5⟩ := id pr_A_ob0
  have hin5 : ¬ ((0 : Int32) < 0 ∨ c5.slots.size ≤ ((0 : Int32)).toNatClampNeg) := inb_of s5 ⟨by decide, by decide⟩
  have u5 : c5.slots[((0 : Int32)).toNatClampNeg]? = some (.int 2) := own_at (k := 0) t5 s5 hin5 (by decide) (rfl)
  refine own_go (fun _ k => X4.iaload hx (j := (0 : Int32)) (v := (.int 2)) (by rw [e4]; exact R5.1) (State.isArrayOf_alike hZ.alike R5.2.1) R5.2.2 hin5 u5 (g := (mkF m 5 #[.val (.ref a_1), .val (.int 0)] [(.int 0), (.ref ob0)])) rfl rfl (hb hby own_d23_5) _ k) ?_
  show own_Go _ _ _ _ T4 (mkF m 6 #[.val (.ref a_1), .val (.int 0)] [(.int 2)])
  obtain ⟨fs, hr, hrun, hended, hW, hsame⟩ := X4.leave (v := some (.int 2)) (fun h => by rw [Bd.returns] at h; cases h)
  refine ⟨_, _, retOut X4 hx Bd.returns rfl (Or.inl ⟨rfl, Or.inl rfl, _, rfl⟩) (hb hby own_d23_6) hr, hrun, hended, _, _, rfl, ?_, ⟨_, rfl⟩, hW, hsame.mono (by decide) (by decide)⟩
  show own_Q23_s1 Z a_1 ob0 h0 n0 _ T4.heap _
  rw [e4]
  exact ⟨rfl, N0, rfl⟩
theorem own_d9_0 : decode prog_6_method_13_code 0 = .ok (.aload_n 0, 1) := by decide +kernel
theorem own_d9_1 : decode prog_6_method_13_code 1 = .ok (.iload_n 2, 1) := by decide +kernel
theorem own_d9_2 : decode prog_6_method_13_code 2 = .ok (.invokevirtual 26, 3) := by decide +kernel
theorem own_d9_5 : decode prog_6_method_13_code 5 = .ok (.aload_n 1, 1) := by decide +kernel
theorem own_d9_6 : decode prog_6_method_13_code 6 = .ok (.astore_n 3, 1) := by decide +kernel
theorem own_d9_7 : decode prog_6_method_13_code 7 = .ok (.aload_n 3, 1) := by decide +kernel
theorem own_d9_8 : decode prog_6_method_13_code 8 = .ok (.arraylength, 1) := by decide +kernel
theorem own_d9_9 : decode prog_6_method_13_code 9 = .ok (.istore 4, 2) := by decide +kernel
theorem own_d9_11 : decode prog_6_method_13_code 11 = .ok (.iconst 0, 1) := by decide +kernel
theorem own_d9_12 : decode prog_6_method_13_code 12 = .ok (.istore 5, 2) := by decide +kernel
theorem own_d9_14 : decode prog_6_method_13_code 14 = .ok (.iload 5, 2) := by decide +kernel
theorem own_d9_16 : decode prog_6_method_13_code 16 = .ok (.iload 4, 2) := by decide +kernel
theorem own_d9_18 : decode prog_6_method_13_code 18 = .ok (.if_icmp .ge 21, 3) := by decide +kernel
theorem own_d9_21 : decode prog_6_method_13_code 21 = .ok (.aload_n 3, 1) := by decide +kernel
theorem own_d9_22 : decode prog_6_method_13_code 22 = .ok (.iload 5, 2) := by decide +kernel
theorem own_d9_24 : decode prog_6_method_13_code 24 = .ok (.iaload, 1) := by decide +kernel
theorem own_d9_25 : decode prog_6_method_13_code 25 = .ok (.istore 6, 2) := by decide +kernel
theorem own_d9_27 : decode prog_6_method_13_code 27 = .ok (.aload_n 0, 1) := by decide +kernel
theorem own_d9_28 : decode prog_6_method_13_code 28 = .ok (.iload 6, 2) := by decide +kernel
theorem own_d9_30 : decode prog_6_method_13_code 30 = .ok (.invokevirtual 26, 3) := by decide +kernel
theorem own_d9_33 : decode prog_6_method_13_code 33 = .ok (.iinc 5 1, 3) := by decide +kernel
theorem own_d9_36 : decode prog_6_method_13_code 36 = .ok (.goto (-22), 3) := by decide +kernel
theorem own_d9_39 : decode prog_6_method_13_code 39 = .ok (.aload_n 0, 1) := by decide +kernel
theorem own_d9_40 : decode prog_6_method_13_code 40 = .ok (.invokevirtual 58, 3) := by decide +kernel
theorem own_d9_43 : decode prog_6_method_13_code 43 = .ok (.new 105, 3) := by decide +kernel
theorem own_d9_46 : decode prog_6_method_13_code 46 = .ok (.dup, 1) := by decide +kernel
theorem own_d9_47 : decode prog_6_method_13_code 47 = .ok (.aload_n 0, 1) := by decide +kernel
theorem own_d9_48 : decode prog_6_method_13_code 48 = .ok (.getfield 22, 3) := by decide +kernel
theorem own_d9_51 : decode prog_6_method_13_code 51 = .ok (.invokespecial 164, 3) := by decide +kernel
theorem own_d9_54 : decode prog_6_method_13_code 54 = .ok (.astore_n 3, 1) := by decide +kernel
theorem own_d9_55 : decode prog_6_method_13_code 55 = .ok (.aload_n 0, 1) := by decide +kernel
theorem own_d9_56 : decode prog_6_method_13_code 56 = .ok (.getfield 30, 3) := by decide +kernel
theorem own_d9_59 : decode prog_6_method_13_code 59 = .ok (.newarray .int, 2) := by decide +kernel
theorem own_d9_61 : decode prog_6_method_13_code 61 = .ok (.astore 4, 2) := by decide +kernel
theorem own_d9_63 : decode prog_6_method_13_code 63 = .ok (.iconst 0, 1) := by decide +kernel
theorem own_d9_64 : decode prog_6_method_13_code 64 = .ok (.istore 5, 2) := by decide +kernel
theorem own_d9_66 : decode prog_6_method_13_code 66 = .ok (.iload 5, 2) := by decide +kernel
theorem own_d9_68 : decode prog_6_method_13_code 68 = .ok (.aload_n 0, 1) := by decide +kernel
theorem own_d9_69 : decode prog_6_method_13_code 69 = .ok (.getfield 30, 3) := by decide +kernel
theorem own_d9_72 : decode prog_6_method_13_code 72 = .ok (.if_icmp .ge 52, 3) := by decide +kernel
theorem own_d9_75 : decode prog_6_method_13_code 75 = .ok (.aload 4, 2) := by decide +kernel
theorem own_d9_77 : decode prog_6_method_13_code 77 = .ok (.iload 5, 2) := by decide +kernel
theorem own_d9_79 : decode prog_6_method_13_code 79 = .ok (.aload_n 0, 1) := by decide +kernel
theorem own_d9_80 : decode prog_6_method_13_code 80 = .ok (.getfield 13, 3) := by decide +kernel
theorem own_d9_83 : decode prog_6_method_13_code 83 = .ok (.iload 5, 2) := by decide +kernel
theorem own_d9_85 : decode prog_6_method_13_code 85 = .ok (.iconst 1, 1) := by decide +kernel
theorem own_d9_86 : decode prog_6_method_13_code 86 = .ok (.iadd, 1) := by decide +kernel
theorem own_d9_87 : decode prog_6_method_13_code 87 = .ok (.iaload, 1) := by decide +kernel
theorem own_d9_88 : decode prog_6_method_13_code 88 = .ok (.aload_n 0, 1) := by decide +kernel
theorem own_d9_89 : decode prog_6_method_13_code 89 = .ok (.getfield 13, 3) := by decide +kernel
theorem own_d9_92 : decode prog_6_method_13_code 92 = .ok (.iload 5, 2) := by decide +kernel
theorem own_d9_94 : decode prog_6_method_13_code 94 = .ok (.iaload, 1) := by decide +kernel
theorem own_d9_95 : decode prog_6_method_13_code 95 = .ok (.isub, 1) := by decide +kernel
theorem own_d9_96 : decode prog_6_method_13_code 96 = .ok (.iastore, 1) := by decide +kernel
theorem own_d9_97 : decode prog_6_method_13_code 97 = .ok (.aload 4, 2) := by decide +kernel
theorem own_d9_99 : decode prog_6_method_13_code 99 = .ok (.iload 5, 2) := by decide +kernel
theorem own_d9_101 : decode prog_6_method_13_code 101 = .ok (.iaload, 1) := by decide +kernel
theorem own_d9_102 : decode prog_6_method_13_code 102 = .ok (.ifCond .ne 16, 3) := by decide +kernel
theorem own_d9_118 : decode prog_6_method_13_code 118 = .ok (.iinc 5 1, 3) := by decide +kernel
theorem own_d9_121 : decode prog_6_method_13_code 121 = .ok (.goto (-55), 3) := by decide +kernel
theorem own_d9_124 : decode prog_6_method_13_code 124 = .ok (.aload_n 1, 1) := by decide +kernel
theorem own_d9_125 : decode prog_6_method_13_code 125 = .ok (.astore 5, 2) := by decide +kernel
theorem own_d9_127 : decode prog_6_method_13_code 127 = .ok (.aload 5, 2) := by decide +kernel
theorem own_d9_129 : decode prog_6_method_13_code 129 = .ok (.arraylength, 1) := by decide +kernel
theorem own_d9_130 : decode prog_6_method_13_code 130 = .ok (.istore 6, 2) := by decide +kernel
theorem own_d9_132 : decode prog_6_method_13_code 132 = .ok (.iconst 0, 1) := by decide +kernel
theorem own_d9_133 : decode prog_6_method_13_code 133 = .ok (.istore 7, 2) := by decide +kernel
theorem own_d9_135 : decode prog_6_method_13_code 135 = .ok (.iload 7, 2) := by decide +kernel
theorem own_d9_137 : decode prog_6_method_13_code 137 = .ok (.iload 6, 2) := by decide +kernel
theorem own_d9_139 : decode prog_6_method_13_code 139 = .ok (.if_icmp .ge 23, 3) := by decide +kernel
theorem own_d9_142 : decode prog_6_method_13_code 142 = .ok (.aload 5, 2) := by decide +kernel
theorem own_d9_144 : decode prog_6_method_13_code 144 = .ok (.iload 7, 2) := by decide +kernel
theorem own_d9_146 : decode prog_6_method_13_code 146 = .ok (.iaload, 1) := by decide +kernel
theorem own_d9_147 : decode prog_6_method_13_code 147 = .ok (.istore 8, 2) := by decide +kernel
theorem own_d9_149 : decode prog_6_method_13_code 149 = .ok (.aload_n 3, 1) := by decide +kernel
theorem own_d9_150 : decode prog_6_method_13_code 150 = .ok (.iload 8, 2) := by decide +kernel
theorem own_d9_152 : decode prog_6_method_13_code 152 = .ok (.iconst (-1), 1) := by decide +kernel
theorem own_d9_153 : decode prog_6_method_13_code 153 = .ok (.invokevirtual 166, 3) := by decide +kernel
theorem own_d9_156 : decode prog_6_method_13_code 156 = .ok (.iinc 7 1, 3) := by decide +kernel
theorem own_d9_159 : decode prog_6_method_13_code 159 = .ok (.goto (-24), 3) := by decide +kernel
theorem own_d9_162 : decode prog_6_method_13_code 162 = .ok (.iconst 0, 1) := by decide +kernel
theorem own_d9_163 : decode prog_6_method_13_code 163 = .ok (.istore 5, 2) := by decide +kernel
theorem own_d9_165 : decode prog_6_method_13_code 165 = .ok (.aload_n 3, 1) := by decide +kernel
theorem own_d9_166 : decode prog_6_method_13_code 166 = .ok (.iload_n 2, 1) := by decide +kernel
theorem own_d9_167 : decode prog_6_method_13_code 167 = .ok (.invokevirtual 104, 3) := by decide +kernel
theorem own_d9_170 : decode prog_6_method_13_code 170 = .ok (.ifCond .ne 94, 3) := by decide +kernel
theorem own_d9_173 : decode prog_6_method_13_code 173 = .ok (.iload 5, 2) := by decide +kernel
theorem own_d9_175 : decode prog_6_method_13_code 175 = .ok (.aload_n 3, 1) := by decide +kernel
theorem own_d9_176 : decode prog_6_method_13_code 176 = .ok (.invokevirtual 170, 3) := by decide +kernel
theorem own_d9_179 : decode prog_6_method_13_code 179 = .ok (.if_icmp .ge 85, 3) := by decide +kernel
theorem own_d9_182 : decode prog_6_method_13_code 182 = .ok (.aload_n 3, 1) := by decide +kernel
theorem own_d9_183 : decode prog_6_method_13_code 183 = .ok (.iload 5, 2) := by decide +kernel
theorem own_d9_185 : decode prog_6_method_13_code 185 = .ok (.invokevirtual 173, 3) := by decide +kernel
theorem own_d9_188 : decode prog_6_method_13_code 188 = .ok (.istore 6, 2) := by decide +kernel
theorem own_d9_190 : decode prog_6_method_13_code 190 = .ok (.iinc 5 1, 3) := by decide +kernel
theorem own_d9_193 : decode prog_6_method_13_code 193 = .ok (.aload_n 0, 1) := by decide +kernel
theorem own_d9_194 : decode prog_6_method_13_code 194 = .ok (.getfield 175, 3) := by decide +kernel
theorem own_d9_197 : decode prog_6_method_13_code 197 = .ok (.iload 6, 2) := by decide +kernel
theorem own_d9_199 : decode prog_6_method_13_code 199 = .ok (.iaload, 1) := by decide +kernel
theorem own_d9_200 : decode prog_6_method_13_code 200 = .ok (.istore 7, 2) := by decide +kernel
theorem own_d9_202 : decode prog_6_method_13_code 202 = .ok (.iload 7, 2) := by decide +kernel
theorem own_d9_204 : decode prog_6_method_13_code 204 = .ok (.aload_n 0, 1) := by decide +kernel
theorem own_d9_205 : decode prog_6_method_13_code 205 = .ok (.getfield 175, 3) := by decide +kernel
theorem own_d9_208 : decode prog_6_method_13_code 208 = .ok (.iload 6, 2) := by decide +kernel
theorem own_d9_210 : decode prog_6_method_13_code 210 = .ok (.iconst 1, 1) := by decide +kernel
theorem own_d9_211 : decode prog_6_method_13_code 211 = .ok (.iadd, 1) := by decide +kernel
theorem own_d9_212 : decode prog_6_method_13_code 212 = .ok (.iaload, 1) := by decide +kernel
theorem own_d9_213 : decode prog_6_method_13_code 213 = .ok (.if_icmp .ge 48, 3) := by decide +kernel
theorem own_d9_261 : decode prog_6_method_13_code 261 = .ok (.goto (-96), 3) := by decide +kernel
theorem own_d9_264 : decode prog_6_method_13_code 264 = .ok (.aload_n 3, 1) := by decide +kernel
theorem own_d9_265 : decode prog_6_method_13_code 265 = .ok (.areturn, 1) := by decide +kernel
theorem own_ef_own_rm9_s1 (m : MethodId) (x0 : Addr) (x1 : Addr) : entryFrame m #[(.ref x0), (.ref x1), (.int 1)] 9 = mkF m 0 #[.val (.ref x0), .val (.ref x1), .val (.int 1), .unset, .unset, .unset, .unset, .unset, .unset] [] := by first | (simp [entryFrame, mkF, argsToLocals, Value.category]; done) | rfl
def own_Q9_s1 (Z : State) (a_1 : Addr) (a_2 : Addr) (g_lam : Addr) (ob0 : Addr) (ob1 : Addr) (ob2 : Addr) (u_0 : Value) (u_1 : Value) (u_2 : Value) (h0 : Heap) (n0 : Nat) (v : Option Value) (h : Heap) (L : List Loc) : Prop := ∃ (x_0 : Addr) (x_1 : Addr) (x_2 : Addr) (x_3 : Addr) (x_4 : Addr) (x_5 : Addr) (x_6 : Addr) (x_7 : Addr), v = some (.ref x_0) ∧ Fr n0 L ∧ Keep h0 h [a_1] ∧ Exa Z h a_1 own_N1 ∧ Fld Z h a_1 own_N1 "bodies" "[I" (.ref ob2) ∧ Fld Z h a_1 own_N1 "bodyStarts" "[I" (.ref ob1) ∧ Fld Z h a_1 own_N1 "clauseCount" "I" (.int 1) ∧ Fld Z h a_1 own_N1 "derivationStarts" "[I" (.ref x_1) ∧ Fld Z h a_1 own_N1 "derivations" "[I" (.ref x_2) ∧ Fld Z h a_1 own_N1 "heads" "[I" (.ref ob0) ∧ Fld Z h a_1 own_N1 "occurrenceStarts" "[I" (.ref x_3) ∧ Fld Z h a_1 own_N1 "occurrences" "[I" (.ref x_4) ∧ Fld Z h a_1 own_N1 "variableCount" "I" (.int 3) ∧ Exa Z h x_0 own_N0 ∧ Fld Z h x_0 own_N0 "order" "[I" (.ref x_5) ∧ Fld Z h x_0 own_N0 "reasons" "[I" (.ref x_6) ∧ Fld Z h x_0 own_N0 "size" "I" (.int 1) ∧ Fld Z h x_0 own_N0 "values" "[Z" (.ref x_7) ∧ own_AV Z h x_1 .int 4 (own_upd (own_upd (own_upd (own_upd (fun _ => (.int 0)) 2 (.int 1)) 1 (.int 0)) 2 (.int 1)) 3 (.int 1)) ∧ own_AV Z h x_2 .int 1 (own_upd (fun _ => (.int 0)) 0 (.int 0)) ∧ own_AV Z h x_3 .int 4 (own_upd (own_upd (own_upd (own_upd (fun _ => (.int 0)) 1 (.int 1)) 1 (.int 1)) 2 (.int 1)) 3 (.int 1)) ∧ own_AV Z h x_4 .int 1 (own_upd (fun _ => (.int 0)) 0 (.int 0)) ∧ own_AV Z h x_5 .int 3 (own_upd (fun _ => (.int 0)) 0 (.int 2)) ∧ own_AV Z h x_6 .int 3 (own_upd (fun _ => (.int 0)) 2 (.int (-1))) ∧ own_AV Z h x_7 .boolean (3 : Int32) (own_upd (fun _ => (.int 0)) 2 (.int 1)) ∧ (h0.size ≤ x_0) ∧ (h0.size ≤ x_1) ∧ (h0.size ≤ x_2) ∧ (h0.size ≤ x_3) ∧ (h0.size ≤ x_4) ∧ (h0.size ≤ x_5) ∧ (h0.size ≤ x_6) ∧ (h0.size ≤ x_7) ∧ (own_lts [x_3, x_4, x_1, x_2, x_0, x_7, x_6, x_5])
set_option maxRecDepth 65536 in
set_option maxHeartbeats 40000000 in
theorem own_rm9_s1 (l : Launch) (Z : State) (a0 : Array Value) (hw : ∀ d ∈ tables_1, d.before a0 Z = true) (ws : List Jvm.Cond) (a_1 : Addr) (a_2 : Addr) (g_lam : Addr) (ob0 : Addr) (ob1 : Addr) (ob2 : Addr) (u_0 : Value) (u_1 : Value) (u_2 : Value) (h0 : Heap) (n0 : Nat) (Z0 : n0 ≤ h0.size) (pr_A_a_2 : own_AV Z h0 a_2 .int 1 (own_upd (fun _ => (.int 0)) 0 (.int 2))) (pr_A_ob0 : own_AV Z h0 ob0 .int 64 (own_upd (fun _ => (.int 0)) 0 (.int 1))) (pr_A_ob1 : own_AV Z h0 ob1 .int 65 (own_upd (fun _ => (.int 0)) 1 (.int 1))) (pr_A_ob2 : own_AV Z h0 ob2 .int 64 (own_upd (fun _ => (.int 0)) 0 (.int 0))) (pr_E_a_1 : Exa Z h0 a_1 own_N1) (pr_F_a_1_bodies : Fld Z h0 a_1 own_N1 "bodies" "[I" (.ref ob2)) (pr_F_a_1_bodyStarts : Fld Z h0 a_1 own_N1 "bodyStarts" "[I" (.ref ob1)) (pr_F_a_1_clauseCount : Fld Z h0 a_1 own_N1 "clauseCount" "I" (.int 1)) (pr_F_a_1_derivationStarts : Fld Z h0 a_1 own_N1 "derivationStarts" "[I" u_0) (pr_F_a_1_derivations : Fld Z h0 a_1 own_N1 "derivations" "[I" u_1) (pr_F_a_1_heads : Fld Z h0 a_1 own_N1 "heads" "[I" (.ref ob0)) (pr_F_a_1_occurrenceStarts : Fld Z h0 a_1 own_N1 "occurrenceStarts" "[I" u_2) (pr_F_a_1_occurrences : Fld Z h0 a_1 own_N1 "occurrences" "[I" .null) (pr_F_a_1_variableCount : Fld Z h0 a_1 own_N1 "variableCount" "I" (.int 3)) (pr_M_g_lam : own_LM Z h0 g_lam) (ho_ : own_lts [a_1, ob0, ob1, ob2, a_2]) (ho_g : own_lts [g_lam, n0]) (gw_a_1 : n0 ≤ a_1) :
    MetFree l (⟨own_N1, "propagate", "([II)Lcom/example/kalchas/kalchas/propositional/HornClauses$Trail;"⟩ : MethodName) (head1 (Jvm.Cond.code (⟨own_N1, "propagate", "([II)Lcom/example/kalchas/kalchas/propositional/HornClauses$Trail;"⟩ : MethodName) prog_6_method_13_code 9 (some (.object own_N0)) :: ws) ({ frames := 4, cells := 17, slots := 104, locals := 3117 } : Room)) (fun a U => a = #[(.ref a_1), (.ref a_2), (.int 1)] ∧ Z.Warmed39 U.vm ∧ U.heap = h0) (fun _ _ _ _ _ => True) (fun _ U o U' => ∃ v L, o = .returned v ∧ own_Q9_s1 Z a_1 a_2 g_lam ob0 ob1 ob2 u_0 u_1 u_2 h0 n0 v U'.heap L ∧ ReturnedEndW U o U' L ({ frames := 4, cells := 17, slots := 104, locals := 3117 } : Room).cells ({ frames := 4, cells := 17, slots := 104, locals := 3117 } : Room).slots) := by
  refine MetFree.of_bodySF (plainFor_of_name own_pn0) hisR ?_
  intro p e s m args below meth c s₁ Bd hml0 hP hK
  obtain ⟨rfl, hZ, hh⟩ := hP
  have hx := Bd.exec
  have hby := Bd.bytes
  have hml : c.maxLocals = 9 := hml0
  have hown : s.vm.findClass own_N1 = some m.cls := findClass_of_methodNamed Bd.named
  have hnm := (name_of_methodNamed Bd.named Bd.method).1
  have X0 : Stand p l e ({ frames := 4, cells := 17, slots := 104, locals := 3117 } : Room) s m #[(.ref a_1), (.ref a_2), (.int 1)] below meth c s₁ [] 0 0 := Stand.of_body Bd
  have e0 : s₁.heap = h0 := by rw [← hh, Bd.state]; rfl
  have N0 := Fr.nil n0
  have X0 : Stand p l e ({ frames := 4, cells := 17, slots := 104, locals := 3117 } : Room) (s.setVm s.vm) m #[(.ref a_1), (.ref a_2), (.int 1)] below meth c s₁ [] 0 0 := X0
  have hZ : Z.Warmed39 (s.setVm s.vm).vm := hZ
  have hown : (s.setVm s.vm).vm.findClass own_N1 = some m.cls := hown
  have hS0 : s.Since s.vm 0 := (State.WarmedH.refl s).since 0
  have z0 : n0 ≤ h0.size := Z0
  have z1 := own_lt pr_A_a_2.lt
  have z2 := own_lt pr_A_ob0.lt
  have z3 := own_lt pr_A_ob1.lt
  have z4 := own_lt pr_A_ob2.lt
  have z5 := own_lt pr_E_a_1.lt
  have z6 := own_lt pr_F_a_1_bodies.lt
  have z7 := own_lt pr_F_a_1_bodyStarts.lt
  have z8 := own_lt pr_F_a_1_clauseCount.lt
  have z9 := own_lt pr_F_a_1_derivationStarts.lt
  have z10 := own_lt pr_F_a_1_derivations.lt
  have z11 := own_lt pr_F_a_1_heads.lt
  have z12 := own_lt pr_F_a_1_occurrenceStarts.lt
  have z13 := own_lt pr_F_a_1_occurrences.lt
  have z14 := own_lt pr_F_a_1_variableCount.lt
  have ho15 := ho_
  simp only [own_lts, and_true] at ho15
  have ho16 := ho_g
  simp only [own_lts, and_true] at ho16
  have K0 : Keep h0 h0 [a_1] := Keep.refl h0 _
  show own_Go p.tables e below (fun t o => t.status = .running ∧ Ended t below o ∧ ∃ v L, o = .returned v ∧ own_Q9_s1 Z a_1 a_2 g_lam ob0 ob1 ob2 u_0 u_1 u_2 h0 n0 v t.heap L ∧ ReturnedEndW s o t L ({ frames := 4, cells := 17, slots := 104, locals := 3117 } : Room).cells ({ frames := 4, cells := 17, slots := 104, locals := 3117 } : Room).slots) s₁ (entryFrame m #[(.ref a_1), (.ref a_2), (.int 1)] 9)
  rw [own_ef_own_rm9_s1 m a_1 a_2]
  show own_Go _ _ _ _ s₁ (mkF m 0 #[.val (.ref a_1), .val (.ref a_2), .val (.int 1), .unset, .unset, .unset, .unset, .unset, .unset] [])
  refine own_go (fun _ k => XS.aloadN X0.here hx rfl (hb hby own_d9_0) rfl rfl (XS.iloadN X0.here hx rfl (hb hby own_d9_1) rfl k)) ?_
  obtain ⟨cq17, kq17, q17a, q17b, q17c⟩ := isOf hZ e0 pr_E_a_1
  obtain ⟨_, _, ⟨T17, L17, k17, n17⟩, -, X17, hS17, gr17, ⟨Lc17, hQ17, l17, y17, z17⟩, st17⟩ := X0.virtualBackS hx (y := (⟨own_N1, "checkVariable", "(I)V"⟩ : MethodName)) (z := (⟨own_N1, "checkVariable", "(I)V"⟩ : MethodName)) hown (mvT hZ (hw _ (List.mem_of_getElem? (i := 30) rfl))) (mvT hZ (hw _ (List.mem_of_getElem? (i := 31) rfl))) (notFace_of_selects (args := #[]) (mvT hZ (own_w33 hw))) (mvT hZ (own_w33 hw)) (mvT hZ (hw _ (List.mem_of_getElem? (i := 32) rfl))) (by decide) (backOfS (W := 0) (own_rm5 l Z a0 hw [] a_1 (1 : Int32) (3 : Int32) h0 n0 (by omega) (show ¬ ((1 : Int32) < 0) by first | assumption | omega | decide) (show (1 : Int32) < (3 : Int32) by first | assumption | omega | decide) pr_F_a_1_variableCount) hZ (hw _ (List.mem_of_getElem? (i := 34) rfl)) (own_w2 hw) (by decide) (by decide)) q17a q17c (g := (mkF m 2 #[.val (.ref a_1), .val (.ref a_2), .val (.int 1), .unset, .unset, .unset, .unset, .unset, .unset] [(.int 1), (.ref a_1)])) rfl (by rw [hml]; rfl) (Steps.refl _) (argsL := [(.int 1)]) (rest := []) (lenOf own_pd3 rfl) rfl (by show 2 * 0 + _ ≤ _; exact Nat.le_of_eq rfl) (hb hby own_d9_2) (fun _ _ => ⟨rfl, e0, (by decide : 0 + 2 ≤ _), (by decide : 0 + 36 ≤ _)⟩)
  dsimp only [Pt.U, Pt.locs, Pt.cells, Pt.slots] at X17 l17 y17 z17 st17 hQ17 hS17 gr17
  have y17 : k17 = 2 := y17
  have z17 : n17 = 36 := z17
  have Wn17 := hS17.1
  obtain ⟨X17, hS17, hZ, hown⟩ := rebS hS0 (n1 := s₁.heap.size) (by rw [e0]; omega) X17 hS17 gr17 hZ hown
  obtain ⟨rfl, N17q, K17q⟩ := hQ17
  have N17 : Fr n0 L17 := by rw [l17]; exact Fr.app N0 N17q
  have z18 := K17q.1
  have K17 : Keep h0 T17.heap [a_1] := K0.trans K17q all0
  refine own_go (fun _ k => st17.trans k) ?_
  show own_Go _ _ _ _ T17 (mkF m 5 #[.val (.ref a_1), .val (.ref a_2), .val (.int 1), .unset, .unset, .unset, .unset, .unset, .unset] [])
  refine own_go (fun _ k => XS.aloadN X17.here hx rfl (hb hby own_d9_5) rfl rfl (XS.astoreN X17.here hx rfl (hb hby own_d9_6) rfl rfl (l' := #[.val (.ref a_1), .val (.ref a_2), .val (.int 1), .val (.ref a_2), .unset, .unset, .unset, .unset, .unset]) rfl (XS.aloadN X17.here hx rfl (hb hby own_d9_7) rfl rfl k))) ?_
  have f19 := (pr_A_a_2.keep K17q nin0)
  obtain ⟨q20, c20, R20, s20, t20⟩ := id f19
  refine own_go (fun _ k => X17.arraylength hx R20.1 (State.isArrayOf_alike hZ.alike R20.2.1) (g := (mkF m 8 #[.val (.ref a_1), .val (.ref a_2), .val (.int 1), .val (.ref a_2), .unset, .unset, .unset, .unset, .unset] [(.ref a_2)])) rfl rfl (hb hby own_d9_8) _ k) ?_
  rw [len_of s20 q20]
  show own_Go _ _ _ _ T17 (mkF m 9 #[.val (.ref a_1), .val (.ref a_2), .val (.int 1), .val (.ref a_2), .unset, .unset, .unset, .unset, .unset] [(.int 1)])
  refine own_go (fun _ k => XS.istore X17.here hx rfl (hb hby own_d9_9) rfl (l' := #[.val (.ref a_1), .val (.ref a_2), .val (.int 1), .val (.ref a_2), .val (.int 1), .unset, .unset, .unset, .unset]) rfl (XS.iconst X17.here hx rfl (hb hby own_d9_11) (XS.istore X17.here hx rfl (hb hby own_d9_12) rfl (l' := #[.val (.ref a_1), .val (.ref a_2), .val (.int 1), .val (.ref a_2), .val (.int 1), .val (.int 0), .unset, .unset, .unset]) rfl (XS.iload X17.here hx rfl (hb hby own_d9_14) rfl k)))) ?_
  show own_Go _ _ _ _ T17 (mkF m 16 #[.val (.ref a_1), .val (.ref a_2), .val (.int 1), .val (.ref a_2), .val (.int 1), .val (.int 0), .unset, .unset, .unset] [(.int 0)])
  refine own_go (fun _ k => XS.iload X17.here hx rfl (hb hby own_d9_16) rfl k) ?_
  have hc21 : (0 : Int32) < (1 : Int32) := by decide
  refine own_go (fun _ k => XS.icmpNo X17.here hx rfl (hb hby own_d9_18) rfl (Jvm.Free.XT.ii_ge_f hc21) (XS.aloadN X17.here hx rfl (hb hby own_d9_21) rfl rfl (XS.iload X17.here hx rfl (hb hby own_d9_22) rfl k))) ?_
  obtain ⟨q22, c22, R22, s22, t22⟩ := id f19
  have hin22 : ¬ ((0 : Int32) < 0 ∨ c22.slots.size ≤ ((0 : Int32)).toNatClampNeg) := inb_of s22 ⟨by decide, by decide⟩
  have u22 : c22.slots[((0 : Int32)).toNatClampNeg]? = some (.int 2) := own_at (k := 0) t22 s22 hin22 (by decide) (rfl)
  refine own_go (fun _ k => X17.iaload hx (j := (0 : Int32)) (v := (.int 2)) R22.1 (State.isArrayOf_alike hZ.alike R22.2.1) R22.2.2 hin22 u22 (g := (mkF m 24 #[.val (.ref a_1), .val (.ref a_2), .val (.int 1), .val (.ref a_2), .val (.int 1), .val (.int 0), .unset, .unset, .unset] [(.int 0), (.ref a_2)])) rfl rfl (hb hby own_d9_24) _ k) ?_
  show own_Go _ _ _ _ T17 (mkF m 25 #[.val (.ref a_1), .val (.ref a_2), .val (.int 1), .val (.ref a_2), .val (.int 1), .val (.int 0), .unset, .unset, .unset] [(.int 2)])
  refine own_go (fun _ k => XS.istore X17.here hx rfl (hb hby own_d9_25) rfl (l' := #[.val (.ref a_1), .val (.ref a_2), .val (.int 1), .val (.ref a_2), .val (.int 1), .val (.int 0), .val (.int 2), .unset, .unset]) rfl (XS.aloadN X17.here hx rfl (hb hby own_d9_27) rfl rfl (XS.iload X17.here hx rfl (hb hby own_d9_28) rfl k))) ?_
  have f23 := (pr_F_a_1_variableCount.keep K17q nin0)
  have f25 := (pr_E_a_1.keep K17q)
  obtain ⟨cq24, kq24, q24a, q24b, q24c⟩ := isOf hZ rfl f25
  obtain ⟨_, _, ⟨T24, L24, k24, n24⟩, -, X24, hS24, gr24, ⟨Lc24, hQ24, l24, y24, z24⟩, st24⟩ := X17.virtualBackS hx (y := (⟨own_N1, "checkVariable", "(I)V"⟩ : MethodName)) (z := (⟨own_N1, "checkVariable", "(I)V"⟩ : MethodName)) hown (mvT hZ (hw _ (List.mem_of_getElem? (i := 30) rfl))) (mvT hZ (hw _ (List.mem_of_getElem? (i := 31) rfl))) (notFace_of_selects (args := #[]) (mvT hZ (own_w33 hw))) (mvT hZ (own_w33 hw)) (mvT hZ (hw _ (List.mem_of_getElem? (i := 32) rfl))) (by decide) (backOfS (W := 0) (own_rm5 l Z a0 hw [] a_1 (2 : Int32) (3 : Int32) T17.heap n0 (by omega) (show ¬ ((2 : Int32) < 0) by first | assumption | omega | decide) (show (2 : Int32) < (3 : Int32) by first | assumption | omega | decide) f23) hZ (hw _ (List.mem_of_getElem? (i := 34) rfl)) (own_w2 hw) (by decide) (by decide)) q24a q24c (g := (mkF m 30 #[.val (.ref a_1), .val (.ref a_2), .val (.int 1), .val (.ref a_2), .val (.int 1), .val (.int 0), .val (.int 2), .unset, .unset] [(.int 2), (.ref a_1)])) rfl (by rw [hml]; rfl) (Steps.refl _) (argsL := [(.int 2)]) (rest := []) (lenOf own_pd3 rfl) rfl (by show 2 * 0 + _ ≤ _; exact Nat.le_of_eq rfl) (hb hby own_d9_30) (fun _ _ => ⟨rfl, rfl, (by show k17 + _ ≤ _; rw [y17]; decide), (by show n17 + _ ≤ _; rw [z17]; decide)⟩)
  dsimp only [Pt.U, Pt.locs, Pt.cells, Pt.slots] at X24 l24 y24 z24 st24 hQ24 hS24 gr24
  have y24 : k24 = 4 := own_addeq y24 (congrArg (fun q => q) y17) rfl
  have z24 : n24 = 72 := own_addeq z24 (congrArg (fun q => q) z17) rfl
  have Wn24 := hS24.1
  obtain ⟨X24, hS24, hZ, hown⟩ := rebS hS17 (n1 := T17.heap.size) (by omega) X24 hS24 gr24 hZ hown
  obtain ⟨rfl, N24q, K24q⟩ := hQ24
  have N24 : Fr n0 L24 := by rw [l24]; exact Fr.app N17 N24q
  have z26 := K24q.1
  have K24 : Keep h0 T24.heap [a_1] := K17.trans K24q all0
  refine own_go (fun _ k => st24.trans k) ?_
  show own_Go _ _ _ _ T24 (mkF m 33 #[.val (.ref a_1), .val (.ref a_2), .val (.int 1), .val (.ref a_2), .val (.int 1), .val (.int 0), .val (.int 2), .unset, .unset] [])
  refine own_go (fun _ k => XS.iinc X24.here hx rfl (hb hby own_d9_33) rfl (l' := #[.val (.ref a_1), .val (.ref a_2), .val (.int 1), .val (.ref a_2), .val (.int 1), .val (.int 1), .val (.int 2), .unset, .unset]) rfl (XS.goto X24.here hx rfl (pc0 := 36) (pc' := 14) rfl (hb hby own_d9_36) (by decide) (by decide) (XS.iload X24.here hx rfl (hb hby own_d9_14) rfl (XS.iload X24.here hx rfl (hb hby own_d9_16) rfl k)))) ?_
  show own_Go _ _ _ _ T24 (mkF m 18 #[.val (.ref a_1), .val (.ref a_2), .val (.int 1), .val (.ref a_2), .val (.int 1), .val (.int 1), .val (.int 2), .unset, .unset] [(.int 1), (.int 1)])
  have hc27 : ¬ ((1 : Int32) < (1 : Int32)) := by decide
  refine own_go (fun _ k => XS.icmpYes X24.here hx rfl (pc0 := 18) (pc' := 39) rfl (hb hby own_d9_18) rfl (Jvm.Free.XT.ii_ge_t hc27) (by decide) (by decide) (XS.aloadN X24.here hx rfl (hb hby own_d9_39) rfl rfl k)) ?_
  have f28 := ((pr_A_ob0.keep K17q nin0).keep K24q nin0)
  have f29 := ((pr_A_ob1.keep K17q nin0).keep K24q nin0)
  have f30 := ((pr_A_ob2.keep K17q nin0).keep K24q nin0)
  have f31 := (f25.keep K24q)
  have f32 := ((pr_F_a_1_bodies.keep K17q nin0).keep K24q nin0)
  have f33 := ((pr_F_a_1_bodyStarts.keep K17q nin0).keep K24q nin0)
  have f34 := ((pr_F_a_1_clauseCount.keep K17q nin0).keep K24q nin0)
  have f35 := ((pr_F_a_1_derivationStarts.keep K17q nin0).keep K24q nin0)
  have f36 := ((pr_F_a_1_derivations.keep K17q nin0).keep K24q nin0)
  have f37 := ((pr_F_a_1_heads.keep K17q nin0).keep K24q nin0)
  have f38 := ((pr_F_a_1_occurrenceStarts.keep K17q nin0).keep K24q nin0)
  have f39 := ((pr_F_a_1_occurrences.keep K17q nin0).keep K24q nin0)
  have f40 := (f23.keep K24q nin0)
  have f41 := ((pr_M_g_lam.keep K17q).keep K24q)
  obtain ⟨cq42, q42, q42'⟩ := (id f31).cell
  obtain ⟨_, _, ⟨T42, L42, k42, n42⟩, -, X42, ⟨Lc42, hQ42, l42, y42, z42⟩, st42⟩ := X24.privateBack hx (y := (⟨own_N1, "index", "()V"⟩ : MethodName)) hown (mvT hZ (hw _ (List.mem_of_getElem? (i := 66) rfl))) (mvT hZ (hw _ (List.mem_of_getElem? (i := 67) rfl))) (own_selfsel hZ (own_w1 hw) (hw _ (List.mem_of_getElem? (i := 67) rfl)) (hw _ (List.mem_of_getElem? (i := 68) rfl)) (by decide)) (Cond.privateMethod_at (mvP hZ (hw _ (List.mem_of_getElem? (i := 68) rfl)) (args := #[]))) (mvT hZ (hw _ (List.mem_of_getElem? (i := 69) rfl))) (by decide) (backOf (W := 0) (own_rm10_s1 l Z a0 hw [] a_1 g_lam ob0 ob1 ob2 u_0 u_1 u_2 T24.heap n0 (by omega) f28 f29 f30 f31 f32 f33 f34 f35 f36 f37 f38 f39 f40 f41 (by simp only [own_lts, and_true]; omega) (by simp only [own_lts, and_true]; omega) (by omega)) hZ (hw _ (List.mem_of_getElem? (i := 69) rfl)) (own_w2 hw) (by decide) (by decide)) (g := (mkF m 40 #[.val (.ref a_1), .val (.ref a_2), .val (.int 1), .val (.ref a_2), .val (.int 1), .val (.int 1), .val (.int 2), .unset, .unset] [(.ref a_1)])) rfl (by rw [hml]; rfl) (Steps.refl _) (a := a_1) q42 q42' (argsL := []) (rest := []) (lenOf own_pd1 rfl) rfl (by show 2 * 0 + _ ≤ _; exact Nat.le_of_eq rfl) (hb hby own_d9_40) (fun _ _ => ⟨rfl, rfl, (by show k24 + _ ≤ _; rw [y24]; decide), (by show n24 + _ ≤ _; rw [z24]; decide)⟩)
  dsimp only [Pt.U, Pt.locs, Pt.cells, Pt.slots] at X42 l42 y42 z42 st42 hQ42
  have y42 : k42 = 12 := own_addeq y42 (congrArg (fun q => q) y24) rfl
  have z42 : n42 = 90 := own_addeq z42 (congrArg (fun q => q) z24) rfl
  obtain ⟨x_43, x_44, x_45, x_46, rfl, N42q, K42q, f47, f48, f49, f50, f51, f52, f53, f54, f55, f56, f57, f58, f59, f60, f61, f62, f63, f64, f65⟩ := hQ42
  have N42 : Fr n0 L42 := by rw [l42]; exact Fr.app N24 N42q
  have z66 := K42q.1
  have K42 : Keep h0 T42.heap [a_1] := K24.trans K42q (allS (Or.inl (List.mem_of_getElem? (i := 0) rfl)) all0)
  have z67 := own_lt f47.lt
  have z68 := own_lt f48.lt
  have z69 := own_lt f49.lt
  have z70 := own_lt f50.lt
  have z71 := own_lt f51.lt
  have z72 := own_lt f52.lt
  have z73 := own_lt f53.lt
  have z74 := own_lt f54.lt
  have z75 := own_lt f55.lt
  have z76 := own_lt f56.lt
  have z77 := own_lt f57.lt
  have z78 := own_lt f58.lt
  have z79 := own_lt f59.lt
  have z80 := own_lt f60.lt
  simp only [own_lts, and_true] at f65
  refine own_go (fun _ k => st42.trans k) ?_
  show own_Go _ _ _ _ T42 (mkF m 43 #[.val (.ref a_1), .val (.ref a_2), .val (.int 1), .val (.ref a_2), .val (.int 1), .val (.int 1), .val (.int 2), .unset, .unset] [])
  obtain ⟨T81, h81, X81, e81, E81, A81, D81, Y81, st81⟩ := newO X42 hx hZ hown (hw _ (List.mem_of_getElem? (i := 110) rfl)) (own_w111 hw) (own_w112 hw) rfl (g := (mkF m 43 #[.val (.ref a_1), .val (.ref a_2), .val (.int 1), .val (.ref a_2), .val (.int 1), .val (.int 1), .val (.int 2), .unset, .unset] [])) rfl (hb hby own_d9_43) (by rw [y42]; decide) (by rw [z42]; decide)
  obtain ⟨b81, g81⟩ : ∃ z, z = T42.heap.size := ⟨_, rfl⟩
  rw [← g81] at A81 D81 Y81 st81
  have z82 := E81.1
  have lt_b81 := own_lt A81.lt
  have K81 : Keep h0 h81 [a_1] := K42.ext E81
  have F_values_b81 : Fld Z h81 b81 own_N0 "values" "[Z" .null := D81 (Or.inr (own_w119 hw)) (ty := (.array .boolean)) (by decide)
  have F_reasons_b81 : Fld Z h81 b81 own_N0 "reasons" "[I" .null := D81 (Or.inr (own_w121 hw)) (ty := (.array .int)) (by decide)
  have F_order_b81 : Fld Z h81 b81 own_N0 "order" "[I" .null := D81 (Or.inr (own_w123 hw)) (ty := (.array .int)) (by decide)
  have F_size_b81 : Fld Z h81 b81 own_N0 "size" "I" (.int 0) := D81 (Or.inl (own_w130 hw)) (ty := .int) (by decide)
  refine own_go (fun _ k => st81 _ k) ?_
  show own_Go _ _ _ _ T81 (mkF m 46 #[.val (.ref a_1), .val (.ref a_2), .val (.int 1), .val (.ref a_2), .val (.int 1), .val (.int 1), .val (.int 2), .unset, .unset] [(.ref b81)])
  refine own_go (fun _ k => XS.dup X81.here hx rfl (hb hby own_d9_46) rfl rfl (XS.aloadN X81.here hx rfl (hb hby own_d9_47) rfl rfl k)) ?_
  have f83 := (f56.ext E81)
  obtain ⟨T84, X84, e84, st84⟩ := getF X81 hx hZ hown (host := "") (Or.inl (own_w23 hw)) Via.refl e81 f83 (g := (mkF m 48 #[.val (.ref a_1), .val (.ref a_2), .val (.int 1), .val (.ref a_2), .val (.int 1), .val (.int 1), .val (.int 2), .unset, .unset] [(.ref a_1), (.ref b81), (.ref b81)])) rfl rfl (hb hby own_d9_48)
  refine own_go (fun _ k => st84 _ k) ?_
  show own_Go _ _ _ _ T84 (mkF m 51 #[.val (.ref a_1), .val (.ref a_2), .val (.int 1), .val (.ref a_2), .val (.int 1), .val (.int 1), .val (.int 2), .unset, .unset] [(.int 3), (.ref b81), (.ref b81)])
  obtain ⟨_, _, ⟨T85, L85, k85, n85⟩, -, X85, ⟨Lc85, hQ85, l85, y85, z85⟩, st85⟩ := X84.specialBack hx (y := (⟨own_N0, "<init>", "(I)V"⟩ : MethodName)) rfl hown (mvT hZ (hw _ (List.mem_of_getElem? (i := 113) rfl))) (mvT hZ (hw _ (List.mem_of_getElem? (i := 114) rfl))) (mvT hZ (hw _ (List.mem_of_getElem? (i := 115) rfl))) (by decide) (backOf (W := 1) (own_rm19_s1 l Z a0 hw [] b81 .null .null .null (.int 0) h81 n0 (by omega) A81 F_order_b81 F_reasons_b81 F_size_b81 F_values_b81 (by omega)) hZ (hw _ (List.mem_of_getElem? (i := 115) rfl)) (own_w112 hw) (by decide) (by decide)) (g := (mkF m 51 #[.val (.ref a_1), .val (.ref a_2), .val (.int 1), .val (.ref a_2), .val (.int 1), .val (.int 1), .val (.int 2), .unset, .unset] [(.int 3), (.ref b81), (.ref b81)])) rfl (by rw [hml]; rfl) (Steps.refl _) (a := b81) (argsL := [(.int 3)]) (rest := [(.ref b81)]) (lenOf own_pd3 rfl) rfl (by show 2 * 0 + _ ≤ _; exact Nat.le_of_eq rfl) (hb hby own_d9_51) (fun _ _ => ⟨rfl, e84, (by show k42 + 1 + _ ≤ _; rw [y42]; decide), (by show n42 + 4 + _ ≤ _; rw [z42]; decide)⟩)
  dsimp only [Pt.U, Pt.locs, Pt.cells, Pt.slots] at X85 l85 y85 z85 st85 hQ85
  have y85 : k85 = 16 := own_addeq y85 (congrArg (fun q => q + 1) y42) rfl
  have z85 : n85 = 103 := own_addeq z85 (congrArg (fun q => q + 4) z42) rfl
  obtain ⟨x_86, x_87, x_88, rfl, N85q, K85q, f89, f90, f91, f92, f93, f94, f95, f96, f97, f98, f99, f100⟩ := hQ85
  have N85 : Fr n0 L85 := by rw [l85]; exact Fr.app N42 N85q
  have z101 := K85q.1
  have K85 : Keep h0 T85.heap [a_1] := K81.trans K85q (allS (Or.inr (by omega)) all0)
  have z102 := own_lt f89.lt
  have z103 := own_lt f90.lt
  have z104 := own_lt f91.lt
  have z105 := own_lt f92.lt
  have z106 := own_lt f93.lt
  have z107 := own_lt f94.lt
  have z108 := own_lt f95.lt
  have z109 := own_lt f96.lt
  simp only [own_lts, and_true] at f100
  refine own_go (fun _ k => st85.trans k) ?_
  show own_Go _ _ _ _ T85 (mkF m 54 #[.val (.ref a_1), .val (.ref a_2), .val (.int 1), .val (.ref a_2), .val (.int 1), .val (.int 1), .val (.int 2), .unset, .unset] [(.ref b81)])
  refine own_go (fun _ k => XS.astoreN X85.here hx rfl (hb hby own_d9_54) rfl rfl (l' := #[.val (.ref a_1), .val (.ref a_2), .val (.int 1), .val (.ref b81), .val (.int 1), .val (.int 1), .val (.int 2), .unset, .unset]) rfl (XS.aloadN X85.here hx rfl (hb hby own_d9_55) rfl rfl k)) ?_
  have f110 := ((f50.ext E81).keep K85q (ninS (own_ne (by omega)) nin0))
  obtain ⟨T111, X111, e111, st111⟩ := getF X85 hx hZ hown (host := "") (Or.inl (own_w46 hw)) Via.refl rfl f110 (g := (mkF m 56 #[.val (.ref a_1), .val (.ref a_2), .val (.int 1), .val (.ref b81), .val (.int 1), .val (.int 1), .val (.int 2), .unset, .unset] [(.ref a_1)])) rfl rfl (hb hby own_d9_56)
  refine own_go (fun _ k => st111 _ k) ?_
  show own_Go _ _ _ _ T111 (mkF m 59 #[.val (.ref a_1), .val (.ref a_2), .val (.int 1), .val (.ref b81), .val (.int 1), .val (.int 1), .val (.int 2), .unset, .unset] [(.int 1)])
  obtain ⟨T112, h112, k112, X112, e112, E112, A112, st112⟩ := newP X111 hx hZ (hw _ (List.mem_of_getElem? (i := 9) rfl)) e111 (g := (mkF m 59 #[.val (.ref a_1), .val (.ref a_2), .val (.int 1), .val (.ref b81), .val (.int 1), .val (.int 1), .val (.int 2), .unset, .unset] [(.int 1)])) rfl (hb hby own_d9_59) rfl (by decide) (cap := 1) (by decide) (by decide) (by rw [y85]; decide) (by rw [z85]; decide)
  obtain ⟨b112, g112⟩ : ∃ z, z = T85.heap.size := ⟨_, rfl⟩
  rw [← g112] at A112 st112
  have z113 := E112.1
  have lt_b112 := own_lt A112.lt
  have K112 : Keep h0 h112 [a_1] := K85.ext E112
  have V_b112 : own_AV Z h112 b112 .int 1 (fun _ => (.int 0)) := own_AV.new A112 (by decide)
  refine own_go (fun _ k => st112 _ k) ?_
  show own_Go _ _ _ _ T112 (mkF m 61 #[.val (.ref a_1), .val (.ref a_2), .val (.int 1), .val (.ref b81), .val (.int 1), .val (.int 1), .val (.int 2), .unset, .unset] [(.ref b112)])
  refine own_go (fun _ k => XS.astore X112.here hx rfl (hb hby own_d9_61) rfl rfl (l' := #[.val (.ref a_1), .val (.ref a_2), .val (.int 1), .val (.ref b81), .val (.ref b112), .val (.int 1), .val (.int 2), .unset, .unset]) rfl (XS.iconst X112.here hx rfl (hb hby own_d9_63) (XS.istore X112.here hx rfl (hb hby own_d9_64) rfl (l' := #[.val (.ref a_1), .val (.ref a_2), .val (.int 1), .val (.ref b81), .val (.ref b112), .val (.int 0), .val (.int 2), .unset, .unset]) rfl (XS.iload X112.here hx rfl (hb hby own_d9_66) rfl k)))) ?_
  show own_Go _ _ _ _ T112 (mkF m 68 #[.val (.ref a_1), .val (.ref a_2), .val (.int 1), .val (.ref b81), .val (.ref b112), .val (.int 0), .val (.int 2), .unset, .unset] [(.int 0)])
  refine own_go (fun _ k => XS.aloadN X112.here hx rfl (hb hby own_d9_68) rfl rfl k) ?_
  have f114 := (f110.ext E112)
  obtain ⟨T115, X115, e115, st115⟩ := getF X112 hx hZ hown (host := "") (Or.inl (own_w46 hw)) Via.refl e112 f114 (g := (mkF m 69 #[.val (.ref a_1), .val (.ref a_2), .val (.int 1), .val (.ref b81), .val (.ref b112), .val (.int 0), .val (.int 2), .unset, .unset] [(.ref a_1), (.int 0)])) rfl rfl (hb hby own_d9_69)
  refine own_go (fun _ k => st115 _ k) ?_
  show own_Go _ _ _ _ T115 (mkF m 72 #[.val (.ref a_1), .val (.ref a_2), .val (.int 1), .val (.ref b81), .val (.ref b112), .val (.int 0), .val (.int 2), .unset, .unset] [(.int 1), (.int 0)])
  have hc116 : (0 : Int32) < (1 : Int32) := by decide
  refine own_go (fun _ k => XS.icmpNo X115.here hx rfl (hb hby own_d9_72) rfl (Jvm.Free.XT.ii_ge_f hc116) (XS.aload X115.here hx rfl (hb hby own_d9_75) rfl rfl (XS.iload X115.here hx rfl (hb hby own_d9_77) rfl (XS.aloadN X115.here hx rfl (hb hby own_d9_79) rfl rfl k)))) ?_
  show own_Go _ _ _ _ T115 (mkF m 80 #[.val (.ref a_1), .val (.ref a_2), .val (.int 1), .val (.ref b81), .val (.ref b112), .val (.int 0), .val (.int 2), .unset, .unset] [(.ref a_1), (.int 0), (.ref b112)])
  have f117 := (((f49.ext E81).keep K85q (ninS (own_ne (by omega)) nin0)).ext E112)
  obtain ⟨T118, X118, e118, st118⟩ := getF X115 hx hZ hown (host := "") (Or.inl (own_w12 hw)) Via.refl e115 f117 (g := (mkF m 80 #[.val (.ref a_1), .val (.ref a_2), .val (.int 1), .val (.ref b81), .val (.ref b112), .val (.int 0), .val (.int 2), .unset, .unset] [(.ref a_1), (.int 0), (.ref b112)])) rfl rfl (hb hby own_d9_80)
  refine own_go (fun _ k => st118 _ k) ?_
  show own_Go _ _ _ _ T118 (mkF m 83 #[.val (.ref a_1), .val (.ref a_2), .val (.int 1), .val (.ref b81), .val (.ref b112), .val (.int 0), .val (.int 2), .unset, .unset] [(.ref ob1), (.int 0), (.ref b112)])
  refine own_go (fun _ k => XS.iload X118.here hx rfl (hb hby own_d9_83) rfl (XS.iconst X118.here hx rfl (hb hby own_d9_85) (XS.iadd X118.here hx rfl (hb hby own_d9_86) rfl k))) ?_
  have f119 := ((((f29.keep K42q (ninS (own_ne (by omega)) nin0)).ext E81).keep K85q (ninS (own_ne (by omega)) nin0)).ext E112)
  obtain ⟨q120, c120, R120, s120, t120⟩ := id f119
  have hin120 : ¬ ((1 : Int32) < 0 ∨ c120.slots.size ≤ ((1 : Int32)).toNatClampNeg) := inb_of s120 ⟨by decide, by decide⟩
  have u120 : c120.slots[((1 : Int32)).toNatClampNeg]? = some (.int 1) := own_at (k := 1) t120 s120 hin120 (by decide) (rfl)
  refine own_go (fun _ k => X118.iaload hx (j := (1 : Int32)) (v := (.int 1)) (by rw [e118]; exact R120.1) (State.isArrayOf_alike hZ.alike R120.2.1) R120.2.2 hin120 u120 (g := (mkF m 87 #[.val (.ref a_1), .val (.ref a_2), .val (.int 1), .val (.ref b81), .val (.ref b112), .val (.int 0), .val (.int 2), .unset, .unset] [(.int 1), (.ref ob1), (.int 0), (.ref b112)])) rfl rfl (hb hby own_d9_87) _ k) ?_
  show own_Go _ _ _ _ T118 (mkF m 88 #[.val (.ref a_1), .val (.ref a_2), .val (.int 1), .val (.ref b81), .val (.ref b112), .val (.int 0), .val (.int 2), .unset, .unset] [(.int 1), (.int 0), (.ref b112)])
  refine own_go (fun _ k => XS.aloadN X118.here hx rfl (hb hby own_d9_88) rfl rfl k) ?_
  obtain ⟨T121, X121, e121, st121⟩ := getF X118 hx hZ hown (host := "") (Or.inl (own_w12 hw)) Via.refl e118 f117 (g := (mkF m 89 #[.val (.ref a_1), .val (.ref a_2), .val (.int 1), .val (.ref b81), .val (.ref b112), .val (.int 0), .val (.int 2), .unset, .unset] [(.ref a_1), (.int 1), (.int 0), (.ref b112)])) rfl rfl (hb hby own_d9_89)
  refine own_go (fun _ k => st121 _ k) ?_
  show own_Go _ _ _ _ T121 (mkF m 92 #[.val (.ref a_1), .val (.ref a_2), .val (.int 1), .val (.ref b81), .val (.ref b112), .val (.int 0), .val (.int 2), .unset, .unset] [(.ref ob1), (.int 1), (.int 0), (.ref b112)])
  refine own_go (fun _ k => XS.iload X121.here hx rfl (hb hby own_d9_92) rfl k) ?_
  obtain ⟨q122, c122, R122, s122, t122⟩ := id f119
  have hin122 : ¬ ((0 : Int32) < 0 ∨ c122.slots.size ≤ ((0 : Int32)).toNatClampNeg) := inb_of s122 ⟨by decide, by decide⟩
  have u122 : c122.slots[((0 : Int32)).toNatClampNeg]? = some (.int 0) := own_at (k := 0) t122 s122 hin122 (by decide) (rfl)
  refine own_go (fun _ k => X121.iaload hx (j := (0 : Int32)) (v := (.int 0)) (by rw [e121]; exact R122.1) (State.isArrayOf_alike hZ.alike R122.2.1) R122.2.2 hin122 u122 (g := (mkF m 94 #[.val (.ref a_1), .val (.ref a_2), .val (.int 1), .val (.ref b81), .val (.ref b112), .val (.int 0), .val (.int 2), .unset, .unset] [(.int 0), (.ref ob1), (.int 1), (.int 0), (.ref b112)])) rfl rfl (hb hby own_d9_94) _ k) ?_
  show own_Go _ _ _ _ T121 (mkF m 95 #[.val (.ref a_1), .val (.ref a_2), .val (.int 1), .val (.ref b81), .val (.ref b112), .val (.int 0), .val (.int 2), .unset, .unset] [(.int 0), (.int 1), (.int 0), (.ref b112)])
  refine own_go (fun _ k => XS.isub X121.here hx rfl (hb hby own_d9_95) rfl k) ?_
  obtain ⟨q123, c123, R123, s123, t123⟩ := id V_b112
  have hin123 : ¬ ((0 : Int32) < 0 ∨ c123.slots.size ≤ ((0 : Int32)).toNatClampNeg) := inb_of s123 ⟨by decide, by decide⟩
  obtain ⟨T124, h124, X124, e124, W124, st124⟩ := stI X121 hx hZ e121 R123 (j := (0 : Int32)) hin123 (g := (mkF m 96 #[.val (.ref a_1), .val (.ref a_2), .val (.int 1), .val (.ref b81), .val (.ref b112), .val (.int 0), .val (.int 2), .unset, .unset] [(.int 1), (.int 0), (.ref b112)])) rfl rfl (hb hby own_d9_96)
  have V124 : own_AV Z h124 b112 .int 1 (own_upd (fun _ => (.int 0)) 0 (.int 1)) := own_AV.set (k := 0) V_b112 W124 (by decide)
  have z125 := W124.size
  have K124 : Keep h0 h124 [a_1] := K112.wr W124 (Or.inr (by omega))
  have N124 := Fr.snoc X124 N85 (by omega : n0 ≤ b112)
  refine own_go (fun _ k => st124 _ k) ?_
  show own_Go _ _ _ _ T124 (mkF m 97 #[.val (.ref a_1), .val (.ref a_2), .val (.int 1), .val (.ref b81), .val (.ref b112), .val (.int 0), .val (.int 2), .unset, .unset] [])
  refine own_go (fun _ k => XS.aload X124.here hx rfl (hb hby own_d9_97) rfl rfl (XS.iload X124.here hx rfl (hb hby own_d9_99) rfl k)) ?_
  obtain ⟨q126, c126, R126, s126, t126⟩ := id V124
  have hin126 : ¬ ((0 : Int32) < 0 ∨ c126.slots.size ≤ ((0 : Int32)).toNatClampNeg) := inb_of s126 ⟨by decide, by decide⟩
  have u126 : c126.slots[((0 : Int32)).toNatClampNeg]? = some (.int 1) := own_at (k := 0) t126 s126 hin126 (by decide) (rfl)
  refine own_go (fun _ k => X124.iaload hx (j := (0 : Int32)) (v := (.int 1)) (by rw [e124]; exact R126.1) (State.isArrayOf_alike hZ.alike R126.2.1) R126.2.2 hin126 u126 (g := (mkF m 101 #[.val (.ref a_1), .val (.ref a_2), .val (.int 1), .val (.ref b81), .val (.ref b112), .val (.int 0), .val (.int 2), .unset, .unset] [(.int 0), (.ref b112)])) rfl rfl (hb hby own_d9_101) _ k) ?_
  show own_Go _ _ _ _ T124 (mkF m 102 #[.val (.ref a_1), .val (.ref a_2), .val (.int 1), .val (.ref b81), .val (.ref b112), .val (.int 0), .val (.int 2), .unset, .unset] [(.int 1)])
  have hc127 : ¬ ((1 : Int32) = 0) := by decide
  refine own_go (fun _ k => XS.ifYes X124.here hx rfl (pc0 := 102) (pc' := 118) rfl (hb hby own_d9_102) rfl (Jvm.Free.XT.i0_ne_t hc127) (by decide) (by decide) (XS.iinc X124.here hx rfl (hb hby own_d9_118) rfl (l' := #[.val (.ref a_1), .val (.ref a_2), .val (.int 1), .val (.ref b81), .val (.ref b112), .val (.int 1), .val (.int 2), .unset, .unset]) rfl (XS.goto X124.here hx rfl (pc0 := 121) (pc' := 66) rfl (hb hby own_d9_121) (by decide) (by decide) (XS.iload X124.here hx rfl (hb hby own_d9_66) rfl k)))) ?_
  show own_Go _ _ _ _ T124 (mkF m 68 #[.val (.ref a_1), .val (.ref a_2), .val (.int 1), .val (.ref b81), .val (.ref b112), .val (.int 1), .val (.int 2), .unset, .unset] [(.int 1)])
  refine own_go (fun _ k => XS.aloadN X124.here hx rfl (hb hby own_d9_68) rfl rfl k) ?_
  have f128 := (f114.other W124 (Or.inl (own_ne (by omega))))
  obtain ⟨T129, X129, e129, st129⟩ := getF X124 hx hZ hown (host := "") (Or.inl (own_w46 hw)) Via.refl e124 f128 (g := (mkF m 69 #[.val (.ref a_1), .val (.ref a_2), .val (.int 1), .val (.ref b81), .val (.ref b112), .val (.int 1), .val (.int 2), .unset, .unset] [(.ref a_1), (.int 1)])) rfl rfl (hb hby own_d9_69)
  refine own_go (fun _ k => st129 _ k) ?_
  show own_Go _ _ _ _ T129 (mkF m 72 #[.val (.ref a_1), .val (.ref a_2), .val (.int 1), .val (.ref b81), .val (.ref b112), .val (.int 1), .val (.int 2), .unset, .unset] [(.int 1), (.int 1)])
  have hc130 : ¬ ((1 : Int32) < (1 : Int32)) := by decide
  refine own_go (fun _ k => XS.icmpYes X129.here hx rfl (pc0 := 72) (pc' := 124) rfl (hb hby own_d9_72) rfl (Jvm.Free.XT.ii_ge_t hc130) (by decide) (by decide) (XS.aloadN X129.here hx rfl (hb hby own_d9_124) rfl rfl (XS.astore X129.here hx rfl (hb hby own_d9_125) rfl rfl (l' := #[.val (.ref a_1), .val (.ref a_2), .val (.int 1), .val (.ref b81), .val (.ref b112), .val (.ref a_2), .val (.int 2), .unset, .unset]) rfl (XS.aload X129.here hx rfl (hb hby own_d9_127) rfl rfl k)))) ?_
  show own_Go _ _ _ _ T129 (mkF m 129 #[.val (.ref a_1), .val (.ref a_2), .val (.int 1), .val (.ref b81), .val (.ref b112), .val (.ref a_2), .val (.int 2), .unset, .unset] [(.ref a_2)])
  have f131 := ((((((f19.keep K24q nin0).keep K42q (ninS (own_ne (by omega)) nin0)).ext E81).keep K85q (ninS (own_ne (by omega)) nin0)).ext E112).other W124 (own_ne (by omega)))
  obtain ⟨q132, c132, R132, s132, t132⟩ := id f131
  refine own_go (fun _ k => X129.arraylength hx (by rw [e129]; exact R132.1) (State.isArrayOf_alike hZ.alike R132.2.1) (g := (mkF m 129 #[.val (.ref a_1), .val (.ref a_2), .val (.int 1), .val (.ref b81), .val (.ref b112), .val (.ref a_2), .val (.int 2), .unset, .unset] [(.ref a_2)])) rfl rfl (hb hby own_d9_129) _ k) ?_
  rw [len_of s132 q132]
  show own_Go _ _ _ _ T129 (mkF m 130 #[.val (.ref a_1), .val (.ref a_2), .val (.int 1), .val (.ref b81), .val (.ref b112), .val (.ref a_2), .val (.int 2), .unset, .unset] [(.int 1)])
  refine own_go (fun _ k => XS.istore X129.here hx rfl (hb hby own_d9_130) rfl (l' := #[.val (.ref a_1), .val (.ref a_2), .val (.int 1), .val (.ref b81), .val (.ref b112), .val (.ref a_2), .val (.int 1), .unset, .unset]) rfl (XS.iconst X129.here hx rfl (hb hby own_d9_132) (XS.istore X129.here hx rfl (hb hby own_d9_133) rfl (l' := #[.val (.ref a_1), .val (.ref a_2), .val (.int 1), .val (.ref b81), .val (.ref b112), .val (.ref a_2), .val (.int 1), .val (.int 0), .unset]) rfl (XS.iload X129.here hx rfl (hb hby own_d9_135) rfl k)))) ?_
  show own_Go _ _ _ _ T129 (mkF m 137 #[.val (.ref a_1), .val (.ref a_2), .val (.int 1), .val (.ref b81), .val (.ref b112), .val (.ref a_2), .val (.int 1), .val (.int 0), .unset] [(.int 0)])
  refine own_go (fun _ k => XS.iload X129.here hx rfl (hb hby own_d9_137) rfl k) ?_
  have hc133 : (0 : Int32) < (1 : Int32) := by decide
  refine own_go (fun _ k => XS.icmpNo X129.here hx rfl (hb hby own_d9_139) rfl (Jvm.Free.XT.ii_ge_f hc133) (XS.aload X129.here hx rfl (hb hby own_d9_142) rfl rfl (XS.iload X129.here hx rfl (hb hby own_d9_144) rfl k))) ?_
  obtain ⟨q134, c134, R134, s134, t134⟩ := id f131
  have hin134 : ¬ ((0 : Int32) < 0 ∨ c134.slots.size ≤ ((0 : Int32)).toNatClampNeg) := inb_of s134 ⟨by decide, by decide⟩
  have u134 : c134.slots[((0 : Int32)).toNatClampNeg]? = some (.int 2) := own_at (k := 0) t134 s134 hin134 (by decide) (rfl)
  refine own_go (fun _ k => X129.iaload hx (j := (0 : Int32)) (v := (.int 2)) (by rw [e129]; exact R134.1) (State.isArrayOf_alike hZ.alike R134.2.1) R134.2.2 hin134 u134 (g := (mkF m 146 #[.val (.ref a_1), .val (.ref a_2), .val (.int 1), .val (.ref b81), .val (.ref b112), .val (.ref a_2), .val (.int 1), .val (.int 0), .unset] [(.int 0), (.ref a_2)])) rfl rfl (hb hby own_d9_146) _ k) ?_
  show own_Go _ _ _ _ T129 (mkF m 147 #[.val (.ref a_1), .val (.ref a_2), .val (.int 1), .val (.ref b81), .val (.ref b112), .val (.ref a_2), .val (.int 1), .val (.int 0), .unset] [(.int 2)])
  refine own_go (fun _ k => XS.istore X129.here hx rfl (hb hby own_d9_147) rfl (l' := #[.val (.ref a_1), .val (.ref a_2), .val (.int 1), .val (.ref b81), .val (.ref b112), .val (.ref a_2), .val (.int 1), .val (.int 0), .val (.int 2)]) rfl (XS.aloadN X129.here hx rfl (hb hby own_d9_149) rfl rfl (XS.iload X129.here hx rfl (hb hby own_d9_150) rfl (XS.iconst X129.here hx rfl (hb hby own_d9_152) k)))) ?_
  show own_Go _ _ _ _ T129 (mkF m 153 #[.val (.ref a_1), .val (.ref a_2), .val (.int 1), .val (.ref b81), .val (.ref b112), .val (.ref a_2), .val (.int 1), .val (.int 0), .val (.int 2)] [(.int (-1)), (.int 2), (.ref b81)])
  have f135 := ((f96.ext E112).other W124 (own_ne (by omega)))
  have f136 := ((f95.ext E112).other W124 (own_ne (by omega)))
  have f137 := ((f94.ext E112).other W124 (own_ne (by omega)))
  have f138 := ((f89.ext E112).wr W124)
  have f139 := ((f90.ext E112).other W124 (Or.inl (own_ne (by omega))))
  have f140 := ((f91.ext E112).other W124 (Or.inl (own_ne (by omega))))
  have f141 := ((f92.ext E112).other W124 (Or.inl (own_ne (by omega))))
  have f142 := ((f93.ext E112).other W124 (Or.inl (own_ne (by omega))))
  obtain ⟨cq143, kq143, q143a, q143b, q143c⟩ := isOf hZ e129 f138
  obtain ⟨_, _, ⟨T143, L143, k143, n143⟩, -, X143, ⟨Lc143, hQ143, l143, y143, z143⟩, st143⟩ := X129.virtualBack hx (y := (⟨own_N0, "assign", "(II)V"⟩ : MethodName)) (z := (⟨own_N0, "assign", "(II)V"⟩ : MethodName)) hown (mvT hZ (hw _ (List.mem_of_getElem? (i := 124) rfl))) (mvT hZ (hw _ (List.mem_of_getElem? (i := 125) rfl))) (notFace_of_selects (args := #[]) (mvT hZ (hw _ (List.mem_of_getElem? (i := 127) rfl)))) (mvT hZ (hw _ (List.mem_of_getElem? (i := 127) rfl))) (mvT hZ (hw _ (List.mem_of_getElem? (i := 126) rfl))) (by decide) (backOf (W := 0) (own_rm20_s1 l Z a0 hw [] b81 x_86 x_87 x_88 h124 n0 (by omega) f135 f136 f137 f138 f139 f140 f141 f142 (by simp only [own_lts, and_true]; omega) (by omega) (by omega) (by omega) (by omega)) hZ (hw _ (List.mem_of_getElem? (i := 128) rfl)) (own_w112 hw) (by decide) (by decide)) q143a q143c (g := (mkF m 153 #[.val (.ref a_1), .val (.ref a_2), .val (.int 1), .val (.ref b81), .val (.ref b112), .val (.ref a_2), .val (.int 1), .val (.int 0), .val (.int 2)] [(.int (-1)), (.int 2), (.ref b81)])) rfl (by rw [hml]; rfl) (Steps.refl _) (argsL := [(.int 2), (.int (-1))]) (rest := []) (lenOf own_pd12 rfl) rfl (by show 2 * 0 + _ ≤ _; exact Nat.le_of_eq rfl) (hb hby own_d9_153) (fun _ _ => ⟨rfl, e129, (by show k85 + 1 + _ ≤ _; rw [y85]; decide), (by show n85 + 1 + _ ≤ _; rw [z85]; decide)⟩)
  dsimp only [Pt.U, Pt.locs, Pt.cells, Pt.slots] at X143 l143 y143 z143 st143 hQ143
  have y143 : k143 = 17 := own_addeq y143 (congrArg (fun q => q + 1) y85) rfl
  have z143 : n143 = 104 := own_addeq z143 (congrArg (fun q => q + 1) z85) rfl
  obtain ⟨rfl, N143q, K143q, f144, f145, f146, f147, f148, f149, f150, f151⟩ := hQ143
  have N143 : Fr n0 L143 := by rw [l143]; exact Fr.app N124 N143q
  have z152 := K143q.1
  have K143 : Keep h0 T143.heap [a_1] := K124.trans K143q (allS (Or.inr (by omega)) (allS (Or.inr (by omega)) (allS (Or.inr (by omega)) (allS (Or.inr (by omega)) all0))))
  have z153 := own_lt f144.lt
  have z154 := own_lt f145.lt
  have z155 := own_lt f146.lt
  have z156 := own_lt f147.lt
  have z157 := own_lt f148.lt
  have z158 := own_lt f149.lt
  have z159 := own_lt f150.lt
  have z160 := own_lt f151.lt
  refine own_go (fun _ k => st143.trans k) ?_
  show own_Go _ _ _ _ T143 (mkF m 156 #[.val (.ref a_1), .val (.ref a_2), .val (.int 1), .val (.ref b81), .val (.ref b112), .val (.ref a_2), .val (.int 1), .val (.int 0), .val (.int 2)] [])
  refine own_go (fun _ k => XS.iinc X143.here hx rfl (hb hby own_d9_156) rfl (l' := #[.val (.ref a_1), .val (.ref a_2), .val (.int 1), .val (.ref b81), .val (.ref b112), .val (.ref a_2), .val (.int 1), .val (.int 1), .val (.int 2)]) rfl (XS.goto X143.here hx rfl (pc0 := 159) (pc' := 135) rfl (hb hby own_d9_159) (by decide) (by decide) (XS.iload X143.here hx rfl (hb hby own_d9_135) rfl (XS.iload X143.here hx rfl (hb hby own_d9_137) rfl k)))) ?_
  show own_Go _ _ _ _ T143 (mkF m 139 #[.val (.ref a_1), .val (.ref a_2), .val (.int 1), .val (.ref b81), .val (.ref b112), .val (.ref a_2), .val (.int 1), .val (.int 1), .val (.int 2)] [(.int 1), (.int 1)])
  have hc161 : ¬ ((1 : Int32) < (1 : Int32)) := by decide
  refine own_go (fun _ k => XS.icmpYes X143.here hx rfl (pc0 := 139) (pc' := 162) rfl (hb hby own_d9_139) rfl (Jvm.Free.XT.ii_ge_t hc161) (by decide) (by decide) (XS.iconst X143.here hx rfl (hb hby own_d9_162) (XS.istore X143.here hx rfl (hb hby own_d9_163) rfl (l' := #[.val (.ref a_1), .val (.ref a_2), .val (.int 1), .val (.ref b81), .val (.ref b112), .val (.int 0), .val (.int 1), .val (.int 1), .val (.int 2)]) rfl (XS.aloadN X143.here hx rfl (hb hby own_d9_165) rfl rfl k)))) ?_
  show own_Go _ _ _ _ T143 (mkF m 166 #[.val (.ref a_1), .val (.ref a_2), .val (.int 1), .val (.ref b81), .val (.ref b112), .val (.int 0), .val (.int 1), .val (.int 1), .val (.int 2)] [(.ref b81)])
  refine own_go (fun _ k => XS.iloadN X143.here hx rfl (hb hby own_d9_166) rfl k) ?_
  obtain ⟨cq162, kq162, q162a, q162b, q162c⟩ := isOf hZ rfl f147
  obtain ⟨_, _, ⟨T162, L162, k162, n162⟩, -, X162, ⟨Lc162, hQ162, l162, y162, z162⟩, st162⟩ := X143.virtualBack hx (y := (⟨own_N0, "isTrue", "(I)Z"⟩ : MethodName)) (z := (⟨own_N0, "isTrue", "(I)Z"⟩ : MethodName)) hown (mvT hZ (hw _ (List.mem_of_getElem? (i := 131) rfl))) (mvT hZ (hw _ (List.mem_of_getElem? (i := 132) rfl))) (notFace_of_selects (args := #[]) (mvT hZ (own_w134 hw))) (mvT hZ (own_w134 hw)) (mvT hZ (hw _ (List.mem_of_getElem? (i := 133) rfl))) (by decide) (backOf (W := 0) (own_rm21_s1 l Z a0 hw [] b81 x_88 T143.heap n0 (by omega) f144 f151 (by simp only [own_lts, and_true]; omega)) hZ (hw _ (List.mem_of_getElem? (i := 135) rfl)) (own_w112 hw) (by decide) (by decide)) q162a q162c (g := (mkF m 167 #[.val (.ref a_1), .val (.ref a_2), .val (.int 1), .val (.ref b81), .val (.ref b112), .val (.int 0), .val (.int 1), .val (.int 1), .val (.int 2)] [(.int 1), (.ref b81)])) rfl (by rw [hml]; rfl) (Steps.refl _) (argsL := [(.int 1)]) (rest := []) (lenOf own_pd13 rfl) rfl (by show 2 * 0 + _ ≤ _; exact Nat.le_of_eq rfl) (hb hby own_d9_167) (fun _ _ => ⟨rfl, rfl, (by show k143 + _ ≤ _; rw [y143]; decide), (by show n143 + _ ≤ _; rw [z143]; decide)⟩)
  dsimp only [Pt.U, Pt.locs, Pt.cells, Pt.slots] at X162 l162 y162 z162 st162 hQ162
  have y162 : k162 = 17 := own_addeq y162 (congrArg (fun q => q) y143) rfl
  have z162 : n162 = 104 := own_addeq z162 (congrArg (fun q => q) z143) rfl
  obtain ⟨rfl, N162q, e162⟩ := hQ162
  have N162 : Fr n0 L162 := by rw [l162]; exact Fr.app N143 N162q
  refine own_go (fun _ k => st162.trans k) ?_
  show own_Go _ _ _ _ T162 (mkF m 170 #[.val (.ref a_1), .val (.ref a_2), .val (.int 1), .val (.ref b81), .val (.ref b112), .val (.int 0), .val (.int 1), .val (.int 1), .val (.int 2)] [(.int 0)])
  have hc163 : (0 : Int32) = 0 := by decide
  refine own_go (fun _ k => XS.ifNo X162.here hx rfl (hb hby own_d9_170) rfl (Jvm.Free.XT.i0_ne_f hc163) (XS.iload X162.here hx rfl (hb hby own_d9_173) rfl (XS.aloadN X162.here hx rfl (hb hby own_d9_175) rfl rfl k))) ?_
  obtain ⟨cq164, kq164, q164a, q164b, q164c⟩ := isOf hZ e162 f147
  obtain ⟨_, _, ⟨T164, L164, k164, n164⟩, -, X164, ⟨Lc164, hQ164, l164, y164, z164⟩, st164⟩ := X162.virtualBack hx (y := (⟨own_N0, "size", "()I"⟩ : MethodName)) (z := (⟨own_N0, "size", "()I"⟩ : MethodName)) hown (mvT hZ (hw _ (List.mem_of_getElem? (i := 136) rfl))) (mvT hZ (hw _ (List.mem_of_getElem? (i := 137) rfl))) (notFace_of_selects (args := #[]) (mvT hZ (hw _ (List.mem_of_getElem? (i := 139) rfl)))) (mvT hZ (hw _ (List.mem_of_getElem? (i := 139) rfl))) (mvT hZ (hw _ (List.mem_of_getElem? (i := 138) rfl))) (by decide) (backOf (W := 1) (own_rm22_s1 l Z a0 hw [] b81  T143.heap n0 (by omega) f150) hZ (hw _ (List.mem_of_getElem? (i := 140) rfl)) (own_w112 hw) (by decide) (by decide)) q164a q164c (g := (mkF m 176 #[.val (.ref a_1), .val (.ref a_2), .val (.int 1), .val (.ref b81), .val (.ref b112), .val (.int 0), .val (.int 1), .val (.int 1), .val (.int 2)] [(.ref b81), (.int 0)])) rfl (by rw [hml]; rfl) (Steps.refl _) (argsL := []) (rest := [(.int 0)]) (lenOf own_pd2 rfl) rfl (by show 2 * 0 + _ ≤ _; exact Nat.le_of_eq rfl) (hb hby own_d9_176) (fun _ _ => ⟨rfl, e162, (by show k162 + _ ≤ _; rw [y162]; decide), (by show n162 + _ ≤ _; rw [z162]; decide)⟩)
  dsimp only [Pt.U, Pt.locs, Pt.cells, Pt.slots] at X164 l164 y164 z164 st164 hQ164
  have y164 : k164 = 17 := own_addeq y164 (congrArg (fun q => q) y162) rfl
  have z164 : n164 = 104 := own_addeq z164 (congrArg (fun q => q) z162) rfl
  obtain ⟨rfl, N164q, e164⟩ := hQ164
  have N164 : Fr n0 L164 := by rw [l164]; exact Fr.app N162 N164q
  refine own_go (fun _ k => st164.trans k) ?_
  show own_Go _ _ _ _ T164 (mkF m 179 #[.val (.ref a_1), .val (.ref a_2), .val (.int 1), .val (.ref b81), .val (.ref b112), .val (.int 0), .val (.int 1), .val (.int 1), .val (.int 2)] [(.int 1), (.int 0)])
  have hc165 : (0 : Int32) < (1 : Int32) := by decide
  refine own_go (fun _ k => XS.icmpNo X164.here hx rfl (hb hby own_d9_179) rfl (Jvm.Free.XT.ii_ge_f hc165) (XS.aloadN X164.here hx rfl (hb hby own_d9_182) rfl rfl (XS.iload X164.here hx rfl (hb hby own_d9_183) rfl k))) ?_
  obtain ⟨cq166, kq166, q166a, q166b, q166c⟩ := isOf hZ e164 f147
  obtain ⟨_, _, ⟨T166, L166, k166, n166⟩, -, X166, ⟨Lc166, hQ166, l166, y166, z166⟩, st166⟩ := X164.virtualBack hx (y := (⟨own_N0, "get", "(I)I"⟩ : MethodName)) (z := (⟨own_N0, "get", "(I)I"⟩ : MethodName)) hown (mvT hZ (hw _ (List.mem_of_getElem? (i := 141) rfl))) (mvT hZ (hw _ (List.mem_of_getElem? (i := 142) rfl))) (notFace_of_selects (args := #[]) (mvT hZ (hw _ (List.mem_of_getElem? (i := 144) rfl)))) (mvT hZ (hw _ (List.mem_of_getElem? (i := 144) rfl))) (mvT hZ (hw _ (List.mem_of_getElem? (i := 143) rfl))) (by decide) (backOf (W := 0) (own_rm23_s1 l Z a0 hw [] b81 x_86 T143.heap n0 (by omega) f146 f148 (by simp only [own_lts, and_true]; omega)) hZ (hw _ (List.mem_of_getElem? (i := 145) rfl)) (own_w112 hw) (by decide) (by decide)) q166a q166c (g := (mkF m 185 #[.val (.ref a_1), .val (.ref a_2), .val (.int 1), .val (.ref b81), .val (.ref b112), .val (.int 0), .val (.int 1), .val (.int 1), .val (.int 2)] [(.int 0), (.ref b81)])) rfl (by rw [hml]; rfl) (Steps.refl _) (argsL := [(.int 0)]) (rest := []) (lenOf own_pd14 rfl) rfl (by show 2 * 0 + _ ≤ _; exact Nat.le_of_eq rfl) (hb hby own_d9_185) (fun _ _ => ⟨rfl, e164, (by show k164 + _ ≤ _; rw [y164]; decide), (by show n164 + _ ≤ _; rw [z164]; decide)⟩)
  dsimp only [Pt.U, Pt.locs, Pt.cells, Pt.slots] at X166 l166 y166 z166 st166 hQ166
  have y166 : k166 = 17 := own_addeq y166 (congrArg (fun q => q) y164) rfl
  have z166 : n166 = 104 := own_addeq z166 (congrArg (fun q => q) z164) rfl
  obtain ⟨rfl, N166q, e166⟩ := hQ166
  have N166 : Fr n0 L166 := by rw [l166]; exact Fr.app N164 N166q
  refine own_go (fun _ k => st166.trans k) ?_
  show own_Go _ _ _ _ T166 (mkF m 188 #[.val (.ref a_1), .val (.ref a_2), .val (.int 1), .val (.ref b81), .val (.ref b112), .val (.int 0), .val (.int 1), .val (.int 1), .val (.int 2)] [(.int 2)])
  refine own_go (fun _ k => XS.istore X166.here hx rfl (hb hby own_d9_188) rfl (l' := #[.val (.ref a_1), .val (.ref a_2), .val (.int 1), .val (.ref b81), .val (.ref b112), .val (.int 0), .val (.int 2), .val (.int 1), .val (.int 2)]) rfl (XS.iinc X166.here hx rfl (hb hby own_d9_190) rfl (l' := #[.val (.ref a_1), .val (.ref a_2), .val (.int 1), .val (.ref b81), .val (.ref b112), .val (.int 1), .val (.int 2), .val (.int 1), .val (.int 2)]) rfl (XS.aloadN X166.here hx rfl (hb hby own_d9_193) rfl rfl k))) ?_
  have f167 := (((((f54.ext E81).keep K85q (ninS (own_ne (by omega)) nin0)).ext E112).other W124 (Or.inl (own_ne (by omega)))).keep K143q (ninS (own_ne (by omega)) (ninS (own_ne (by omega)) (ninS (own_ne (by omega)) (ninS (own_ne (by omega)) nin0)))))
  obtain ⟨T168, X168, e168, st168⟩ := getF X166 hx hZ hown (host := "") (Or.inl (own_w108 hw)) Via.refl e166 f167 (g := (mkF m 194 #[.val (.ref a_1), .val (.ref a_2), .val (.int 1), .val (.ref b81), .val (.ref b112), .val (.int 1), .val (.int 2), .val (.int 1), .val (.int 2)] [(.ref a_1)])) rfl rfl (hb hby own_d9_194)
  refine own_go (fun _ k => st168 _ k) ?_
  show own_Go _ _ _ _ T168 (mkF m 197 #[.val (.ref a_1), .val (.ref a_2), .val (.int 1), .val (.ref b81), .val (.ref b112), .val (.int 1), .val (.int 2), .val (.int 1), .val (.int 2)] [(.ref x_45)])
  refine own_go (fun _ k => XS.iload X168.here hx rfl (hb hby own_d9_197) rfl k) ?_
  have f169 := (((((f59.ext E81).keep K85q (ninS (own_ne (by omega)) nin0)).ext E112).other W124 (own_ne (by omega))).keep K143q (ninS (own_ne (by omega)) (ninS (own_ne (by omega)) (ninS (own_ne (by omega)) (ninS (own_ne (by omega)) nin0)))))
  obtain ⟨q170, c170, R170, s170, t170⟩ := id f169
  have hin170 : ¬ ((2 : Int32) < 0 ∨ c170.slots.size ≤ ((2 : Int32)).toNatClampNeg) := inb_of s170 ⟨by decide, by decide⟩
  have u170 : c170.slots[((2 : Int32)).toNatClampNeg]? = some (.int 1) := own_at (k := 2) t170 s170 hin170 (by decide) (rfl)
  refine own_go (fun _ k => X168.iaload hx (j := (2 : Int32)) (v := (.int 1)) (by rw [e168]; exact R170.1) (State.isArrayOf_alike hZ.alike R170.2.1) R170.2.2 hin170 u170 (g := (mkF m 199 #[.val (.ref a_1), .val (.ref a_2), .val (.int 1), .val (.ref b81), .val (.ref b112), .val (.int 1), .val (.int 2), .val (.int 1), .val (.int 2)] [(.int 2), (.ref x_45)])) rfl rfl (hb hby own_d9_199) _ k) ?_
  show own_Go _ _ _ _ T168 (mkF m 200 #[.val (.ref a_1), .val (.ref a_2), .val (.int 1), .val (.ref b81), .val (.ref b112), .val (.int 1), .val (.int 2), .val (.int 1), .val (.int 2)] [(.int 1)])
  refine own_go (fun _ k => XS.istore X168.here hx rfl (hb hby own_d9_200) rfl (l' := #[.val (.ref a_1), .val (.ref a_2), .val (.int 1), .val (.ref b81), .val (.ref b112), .val (.int 1), .val (.int 2), .val (.int 1), .val (.int 2)]) rfl (XS.iload X168.here hx rfl (hb hby own_d9_202) rfl (XS.aloadN X168.here hx rfl (hb hby own_d9_204) rfl rfl k))) ?_
  obtain ⟨T171, X171, e171, st171⟩ := getF X168 hx hZ hown (host := "") (Or.inl (own_w108 hw)) Via.refl e168 f167 (g := (mkF m 205 #[.val (.ref a_1), .val (.ref a_2), .val (.int 1), .val (.ref b81), .val (.ref b112), .val (.int 1), .val (.int 2), .val (.int 1), .val (.int 2)] [(.ref a_1), (.int 1)])) rfl rfl (hb hby own_d9_205)
  refine own_go (fun _ k => st171 _ k) ?_
  show own_Go _ _ _ _ T171 (mkF m 208 #[.val (.ref a_1), .val (.ref a_2), .val (.int 1), .val (.ref b81), .val (.ref b112), .val (.int 1), .val (.int 2), .val (.int 1), .val (.int 2)] [(.ref x_45), (.int 1)])
  refine own_go (fun _ k => XS.iload X171.here hx rfl (hb hby own_d9_208) rfl (XS.iconst X171.here hx rfl (hb hby own_d9_210) (XS.iadd X171.here hx rfl (hb hby own_d9_211) rfl k))) ?_
  obtain ⟨q172, c172, R172, s172, t172⟩ := id f169
  have hin172 : ¬ ((3 : Int32) < 0 ∨ c172.slots.size ≤ ((3 : Int32)).toNatClampNeg) := inb_of s172 ⟨by decide, by decide⟩
  have u172 : c172.slots[((3 : Int32)).toNatClampNeg]? = some (.int 1) := own_at (k := 3) t172 s172 hin172 (by decide) (rfl)
  refine own_go (fun _ k => X171.iaload hx (j := (3 : Int32)) (v := (.int 1)) (by rw [e171]; exact R172.1) (State.isArrayOf_alike hZ.alike R172.2.1) R172.2.2 hin172 u172 (g := (mkF m 212 #[.val (.ref a_1), .val (.ref a_2), .val (.int 1), .val (.ref b81), .val (.ref b112), .val (.int 1), .val (.int 2), .val (.int 1), .val (.int 2)] [(.int 3), (.ref x_45), (.int 1)])) rfl rfl (hb hby own_d9_212) _ k) ?_
  show own_Go _ _ _ _ T171 (mkF m 213 #[.val (.ref a_1), .val (.ref a_2), .val (.int 1), .val (.ref b81), .val (.ref b112), .val (.int 1), .val (.int 2), .val (.int 1), .val (.int 2)] [(.int 1), (.int 1)])
  have hc173 : ¬ ((1 : Int32) < (1 : Int32)) := by decide
  refine own_go (fun _ k => XS.icmpYes X171.here hx rfl (pc0 := 213) (pc' := 261) rfl (hb hby own_d9_213) rfl (Jvm.Free.XT.ii_ge_t hc173) (by decide) (by decide) (XS.goto X171.here hx rfl (pc0 := 261) (pc' := 165) rfl (hb hby own_d9_261) (by decide) (by decide) (XS.aloadN X171.here hx rfl (hb hby own_d9_165) rfl rfl (XS.iloadN X171.here hx rfl (hb hby own_d9_166) rfl k)))) ?_
  show own_Go _ _ _ _ T171 (mkF m 167 #[.val (.ref a_1), .val (.ref a_2), .val (.int 1), .val (.ref b81), .val (.ref b112), .val (.int 1), .val (.int 2), .val (.int 1), .val (.int 2)] [(.int 1), (.ref b81)])
  obtain ⟨cq174, kq174, q174a, q174b, q174c⟩ := isOf hZ e171 f147
  obtain ⟨_, _, ⟨T174, L174, k174, n174⟩, -, X174, ⟨Lc174, hQ174, l174, y174, z174⟩, st174⟩ := X171.virtualBack hx (y := (⟨own_N0, "isTrue", "(I)Z"⟩ : MethodName)) (z := (⟨own_N0, "isTrue", "(I)Z"⟩ : MethodName)) hown (mvT hZ (hw _ (List.mem_of_getElem? (i := 131) rfl))) (mvT hZ (hw _ (List.mem_of_getElem? (i := 132) rfl))) (notFace_of_selects (args := #[]) (mvT hZ (own_w134 hw))) (mvT hZ (own_w134 hw)) (mvT hZ (hw _ (List.mem_of_getElem? (i := 133) rfl))) (by decide) (backOf (W := 0) (own_rm21_s1 l Z a0 hw [] b81 x_88 T143.heap n0 (by omega) f144 f151 (by simp only [own_lts, and_true]; omega)) hZ (hw _ (List.mem_of_getElem? (i := 135) rfl)) (own_w112 hw) (by decide) (by decide)) q174a q174c (g := (mkF m 167 #[.val (.ref a_1), .val (.ref a_2), .val (.int 1), .val (.ref b81), .val (.ref b112), .val (.int 1), .val (.int 2), .val (.int 1), .val (.int 2)] [(.int 1), (.ref b81)])) rfl (by rw [hml]; rfl) (Steps.refl _) (argsL := [(.int 1)]) (rest := []) (lenOf own_pd13 rfl) rfl (by show 2 * 0 + _ ≤ _; exact Nat.le_of_eq rfl) (hb hby own_d9_167) (fun _ _ => ⟨rfl, e171, (by show k166 + _ ≤ _; rw [y166]; decide), (by show n166 + _ ≤ _; rw [z166]; decide)⟩)
  dsimp only [Pt.U, Pt.locs, Pt.cells, Pt.slots] at X174 l174 y174 z174 st174 hQ174
  have y174 : k174 = 17 := own_addeq y174 (congrArg (fun q => q) y166) rfl
  have z174 : n174 = 104 := own_addeq z174 (congrArg (fun q => q) z166) rfl
  obtain ⟨rfl, N174q, e174⟩ := hQ174
  have N174 : Fr n0 L174 := by rw [l174]; exact Fr.app N166 N174q
  refine own_go (fun _ k => st174.trans k) ?_
  show own_Go _ _ _ _ T174 (mkF m 170 #[.val (.ref a_1), .val (.ref a_2), .val (.int 1), .val (.ref b81), .val (.ref b112), .val (.int 1), .val (.int 2), .val (.int 1), .val (.int 2)] [(.int 0)])
  have hc175 : (0 : Int32) = 0 := by decide
  refine own_go (fun _ k => XS.ifNo X174.here hx rfl (hb hby own_d9_170) rfl (Jvm.Free.XT.i0_ne_f hc175) (XS.iload X174.here hx rfl (hb hby own_d9_173) rfl (XS.aloadN X174.here hx rfl (hb hby own_d9_175) rfl rfl k))) ?_
  obtain ⟨cq176, kq176, q176a, q176b, q176c⟩ := isOf hZ e174 f147
  obtain ⟨_, _, ⟨T176, L176, k176, n176⟩, -, X176, ⟨Lc176, hQ176, l176, y176, z176⟩, st176⟩ := X174.virtualBack hx (y := (⟨own_N0, "size", "()I"⟩ : MethodName)) (z := (⟨own_N0, "size", "()I"⟩ : MethodName)) hown (mvT hZ (hw _ (List.mem_of_getElem? (i := 136) rfl))) (mvT hZ (hw _ (List.mem_of_getElem? (i := 137) rfl))) (notFace_of_selects (args := #[]) (mvT hZ (hw _ (List.mem_of_getElem? (i := 139) rfl)))) (mvT hZ (hw _ (List.mem_of_getElem? (i := 139) rfl))) (mvT hZ (hw _ (List.mem_of_getElem? (i := 138) rfl))) (by decide) (backOf (W := 1) (own_rm22_s1 l Z a0 hw [] b81  T143.heap n0 (by omega) f150) hZ (hw _ (List.mem_of_getElem? (i := 140) rfl)) (own_w112 hw) (by decide) (by decide)) q176a q176c (g := (mkF m 176 #[.val (.ref a_1), .val (.ref a_2), .val (.int 1), .val (.ref b81), .val (.ref b112), .val (.int 1), .val (.int 2), .val (.int 1), .val (.int 2)] [(.ref b81), (.int 1)])) rfl (by rw [hml]; rfl) (Steps.refl _) (argsL := []) (rest := [(.int 1)]) (lenOf own_pd2 rfl) rfl (by show 2 * 0 + _ ≤ _; exact Nat.le_of_eq rfl) (hb hby own_d9_176) (fun _ _ => ⟨rfl, e174, (by show k174 + _ ≤ _; rw [y174]; decide), (by show n174 + _ ≤ _; rw [z174]; decide)⟩)
  dsimp only [Pt.U, Pt.locs, Pt.cells, Pt.slots] at X176 l176 y176 z176 st176 hQ176
  have y176 : k176 = 17 := own_addeq y176 (congrArg (fun q => q) y174) rfl
  have z176 : n176 = 104 := own_addeq z176 (congrArg (fun q => q) z174) rfl
  obtain ⟨rfl, N176q, e176⟩ := hQ176
  have N176 : Fr n0 L176 := by rw [l176]; exact Fr.app N174 N176q
  refine own_go (fun _ k => st176.trans k) ?_
  show own_Go _ _ _ _ T176 (mkF m 179 #[.val (.ref a_1), .val (.ref a_2), .val (.int 1), .val (.ref b81), .val (.ref b112), .val (.int 1), .val (.int 2), .val (.int 1), .val (.int 2)] [(.int 1), (.int 1)])
  have hc177 : ¬ ((1 : Int32) < (1 : Int32)) := by decide
  refine own_go (fun _ k => XS.icmpYes X176.here hx rfl (pc0 := 179) (pc' := 264) rfl (hb hby own_d9_179) rfl (Jvm.Free.XT.ii_ge_t hc177) (by decide) (by decide) (XS.aloadN X176.here hx rfl (hb hby own_d9_264) rfl rfl k)) ?_
  show own_Go _ _ _ _ T176 (mkF m 265 #[.val (.ref a_1), .val (.ref a_2), .val (.int 1), .val (.ref b81), .val (.ref b112), .val (.int 1), .val (.int 2), .val (.int 1), .val (.int 2)] [(.ref b81)])
  obtain ⟨fs, hr, hrun, hended, hRW⟩ := X176.leaveW hS24 (by rw [e176]; omega) (v := some (.ref b81)) (fun h => by rw [Bd.returns] at h; cases h)
  refine ⟨_, _, retOut X176 hx Bd.returns rfl (Or.inr (Or.inr (Or.inr (Or.inr ⟨rfl, rfl, rfl⟩)))) (hb hby own_d9_265) hr, hrun, hended, _, _, rfl, ?_, own_monoW hRW (by rw [y176]; decide) (by rw [z176]; decide)⟩
  show own_Q9_s1 Z a_1 a_2 g_lam ob0 ob1 ob2 u_0 u_1 u_2 h0 n0 _ T176.heap _
  rw [e176]
  have f179 := (((((f47.ext E81).keep K85q).ext E112).wr W124).keep K143q)
  have f180 := (((((f48.ext E81).keep K85q (ninS (own_ne (by omega)) nin0)).ext E112).other W124 (Or.inl (own_ne (by omega)))).keep K143q (ninS (own_ne (by omega)) (ninS (own_ne (by omega)) (ninS (own_ne (by omega)) (ninS (own_ne (by omega)) nin0)))))
  have f181 := ((f117.other W124 (Or.inl (own_ne (by omega)))).keep K143q (ninS (own_ne (by omega)) (ninS (own_ne (by omega)) (ninS (own_ne (by omega)) (ninS (own_ne (by omega)) nin0)))))
  have f182 := (f128.keep K143q (ninS (own_ne (by omega)) (ninS (own_ne (by omega)) (ninS (own_ne (by omega)) (ninS (own_ne (by omega)) nin0)))))
  have f183 := (((((f51.ext E81).keep K85q (ninS (own_ne (by omega)) nin0)).ext E112).other W124 (Or.inl (own_ne (by omega)))).keep K143q (ninS (own_ne (by omega)) (ninS (own_ne (by omega)) (ninS (own_ne (by omega)) (ninS (own_ne (by omega)) nin0)))))
  have f184 := (((((f52.ext E81).keep K85q (ninS (own_ne (by omega)) nin0)).ext E112).other W124 (Or.inl (own_ne (by omega)))).keep K143q (ninS (own_ne (by omega)) (ninS (own_ne (by omega)) (ninS (own_ne (by omega)) (ninS (own_ne (by omega)) nin0)))))
  have f185 := (((((f53.ext E81).keep K85q (ninS (own_ne (by omega)) nin0)).ext E112).other W124 (Or.inl (own_ne (by omega)))).keep K143q (ninS (own_ne (by omega)) (ninS (own_ne (by omega)) (ninS (own_ne (by omega)) (ninS (own_ne (by omega)) nin0)))))
  have f186 := (((((f55.ext E81).keep K85q (ninS (own_ne (by omega)) nin0)).ext E112).other W124 (Or.inl (own_ne (by omega)))).keep K143q (ninS (own_ne (by omega)) (ninS (own_ne (by omega)) (ninS (own_ne (by omega)) (ninS (own_ne (by omega)) nin0)))))
  have f187 := ((((f83.keep K85q (ninS (own_ne (by omega)) nin0)).ext E112).other W124 (Or.inl (own_ne (by omega)))).keep K143q (ninS (own_ne (by omega)) (ninS (own_ne (by omega)) (ninS (own_ne (by omega)) (ninS (own_ne (by omega)) nin0)))))
  have f188 := (((((f57.ext E81).keep K85q (ninS (own_ne (by omega)) nin0)).ext E112).other W124 (own_ne (by omega))).keep K143q (ninS (own_ne (by omega)) (ninS (own_ne (by omega)) (ninS (own_ne (by omega)) (ninS (own_ne (by omega)) nin0)))))
  have f189 := (((((f58.ext E81).keep K85q (ninS (own_ne (by omega)) nin0)).ext E112).other W124 (own_ne (by omega))).keep K143q (ninS (own_ne (by omega)) (ninS (own_ne (by omega)) (ninS (own_ne (by omega)) (ninS (own_ne (by omega)) nin0)))))
  have f190 := (((((f60.ext E81).keep K85q (ninS (own_ne (by omega)) nin0)).ext E112).other W124 (own_ne (by omega))).keep K143q (ninS (own_ne (by omega)) (ninS (own_ne (by omega)) (ninS (own_ne (by omega)) (ninS (own_ne (by omega)) nin0)))))
  exact ⟨b81, x_43, x_44, x_45, x_46, x_86, x_87, x_88, rfl, N176, K143, f179, f180, f181, f182, f183, f184, f185, f167, f186, f187, f147, f148, f149, f150, f151, f188, f189, f169, f190, f146, f145, f144, (by omega), (by omega), (by omega), (by omega), (by omega), (by omega), (by omega), (by omega), (by simp only [own_lts, and_true]; omega)⟩
theorem own_d8_0 : decode prog_6_method_8_code 0 = .ok (.aload_n 0, 1) := by decide +kernel
theorem own_d8_1 : decode prog_6_method_8_code 1 = .ok (.aload_n 1, 1) := by decide +kernel
theorem own_d8_2 : decode prog_6_method_8_code 2 = .ok (.iload_n 2, 1) := by decide +kernel
theorem own_d8_3 : decode prog_6_method_8_code 3 = .ok (.invokevirtual 100, 3) := by decide +kernel
theorem own_d8_6 : decode prog_6_method_8_code 6 = .ok (.iload_n 2, 1) := by decide +kernel
theorem own_d8_7 : decode prog_6_method_8_code 7 = .ok (.invokevirtual 104, 3) := by decide +kernel
theorem own_d8_10 : decode prog_6_method_8_code 10 = .ok (.ireturn, 1) := by decide +kernel
theorem own_ef_own_rm8_s1 (m : MethodId) (x0 : Addr) (x1 : Addr) : entryFrame m #[(.ref x0), (.ref x1), (.int 1)] 3 = mkF m 0 #[.val (.ref x0), .val (.ref x1), .val (.int 1)] [] := by first | (simp [entryFrame, mkF, argsToLocals, Value.category]; done) | rfl
def own_Q8_s1 (Z : State) (a_1 : Addr) (a_2 : Addr) (g_lam : Addr) (ob0 : Addr) (ob1 : Addr) (ob2 : Addr) (u_0 : Value) (u_1 : Value) (u_2 : Value) (h0 : Heap) (n0 : Nat) (v : Option Value) (h : Heap) (L : List Loc) : Prop := ∃ (x_0 : Addr) (x_1 : Addr) (x_2 : Addr) (x_3 : Addr), v = some (.int 0) ∧ Fr n0 L ∧ Keep h0 h [a_1] ∧ Exa Z h a_1 own_N1 ∧ Fld Z h a_1 own_N1 "bodies" "[I" (.ref ob2) ∧ Fld Z h a_1 own_N1 "bodyStarts" "[I" (.ref ob1) ∧ Fld Z h a_1 own_N1 "clauseCount" "I" (.int 1) ∧ Fld Z h a_1 own_N1 "derivationStarts" "[I" (.ref x_0) ∧ Fld Z h a_1 own_N1 "derivations" "[I" (.ref x_1) ∧ Fld Z h a_1 own_N1 "heads" "[I" (.ref ob0) ∧ Fld Z h a_1 own_N1 "occurrenceStarts" "[I" (.ref x_2) ∧ Fld Z h a_1 own_N1 "occurrences" "[I" (.ref x_3) ∧ Fld Z h a_1 own_N1 "variableCount" "I" (.int 3) ∧ own_AV Z h x_0 .int 4 (own_upd (own_upd (own_upd (own_upd (fun _ => (.int 0)) 2 (.int 1)) 1 (.int 0)) 2 (.int 1)) 3 (.int 1)) ∧ own_AV Z h x_1 .int 1 (own_upd (fun _ => (.int 0)) 0 (.int 0)) ∧ own_AV Z h x_2 .int 4 (own_upd (own_upd (own_upd (own_upd (fun _ => (.int 0)) 1 (.int 1)) 1 (.int 1)) 2 (.int 1)) 3 (.int 1)) ∧ own_AV Z h x_3 .int 1 (own_upd (fun _ => (.int 0)) 0 (.int 0)) ∧ (h0.size ≤ x_0) ∧ (h0.size ≤ x_1) ∧ (h0.size ≤ x_2) ∧ (h0.size ≤ x_3) ∧ (own_lts [x_2, x_3, x_0, x_1])
set_option maxRecDepth 65536 in
set_option maxHeartbeats 40000000 in
theorem own_rm8_s1 (l : Launch) (Z : State) (a0 : Array Value) (hw : ∀ d ∈ tables_1, d.before a0 Z = true) (ws : List Jvm.Cond) (a_1 : Addr) (a_2 : Addr) (g_lam : Addr) (ob0 : Addr) (ob1 : Addr) (ob2 : Addr) (u_0 : Value) (u_1 : Value) (u_2 : Value) (h0 : Heap) (n0 : Nat) (Z0 : n0 ≤ h0.size) (pr_A_a_2 : own_AV Z h0 a_2 .int 1 (own_upd (fun _ => (.int 0)) 0 (.int 2))) (pr_A_ob0 : own_AV Z h0 ob0 .int 64 (own_upd (fun _ => (.int 0)) 0 (.int 1))) (pr_A_ob1 : own_AV Z h0 ob1 .int 65 (own_upd (fun _ => (.int 0)) 1 (.int 1))) (pr_A_ob2 : own_AV Z h0 ob2 .int 64 (own_upd (fun _ => (.int 0)) 0 (.int 0))) (pr_E_a_1 : Exa Z h0 a_1 own_N1) (pr_F_a_1_bodies : Fld Z h0 a_1 own_N1 "bodies" "[I" (.ref ob2)) (pr_F_a_1_bodyStarts : Fld Z h0 a_1 own_N1 "bodyStarts" "[I" (.ref ob1)) (pr_F_a_1_clauseCount : Fld Z h0 a_1 own_N1 "clauseCount" "I" (.int 1)) (pr_F_a_1_derivationStarts : Fld Z h0 a_1 own_N1 "derivationStarts" "[I" u_0) (pr_F_a_1_derivations : Fld Z h0 a_1 own_N1 "derivations" "[I" u_1) (pr_F_a_1_heads : Fld Z h0 a_1 own_N1 "heads" "[I" (.ref ob0)) (pr_F_a_1_occurrenceStarts : Fld Z h0 a_1 own_N1 "occurrenceStarts" "[I" u_2) (pr_F_a_1_occurrences : Fld Z h0 a_1 own_N1 "occurrences" "[I" .null) (pr_F_a_1_variableCount : Fld Z h0 a_1 own_N1 "variableCount" "I" (.int 3)) (pr_M_g_lam : own_LM Z h0 g_lam) (ho_ : own_lts [a_1, ob0, ob1, ob2, a_2]) (ho_g : own_lts [g_lam, n0]) (gw_a_1 : n0 ≤ a_1) :
    MetFree l (⟨own_N1, "implies", "([II)Z"⟩ : MethodName) (head1 (Jvm.Cond.code (⟨own_N1, "implies", "([II)Z"⟩ : MethodName) prog_6_method_8_code 3 (some .boolean) :: ws) ({ frames := 5, cells := 17, slots := 104, locals := 3137 } : Room)) (fun a U => a = #[(.ref a_1), (.ref a_2), (.int 1)] ∧ Z.Warmed39 U.vm ∧ U.heap = h0) (fun _ _ _ _ _ => True) (fun _ U o U' => ∃ v L, o = .returned v ∧ own_Q8_s1 Z a_1 a_2 g_lam ob0 ob1 ob2 u_0 u_1 u_2 h0 n0 v U'.heap L ∧ ReturnedEndW U o U' L ({ frames := 5, cells := 17, slots := 104, locals := 3137 } : Room).cells ({ frames := 5, cells := 17, slots := 104, locals := 3137 } : Room).slots) := by
  refine MetFree.of_bodySF (plainFor_of_name own_pn0) hisR ?_
  intro p e s m args below meth c s₁ Bd hml0 hP hK
  obtain ⟨rfl, hZ, hh⟩ := hP
  have hx := Bd.exec
  have hby := Bd.bytes
  have hml : c.maxLocals = 3 := hml0
  have hown : s.vm.findClass own_N1 = some m.cls := findClass_of_methodNamed Bd.named
  have hnm := (name_of_methodNamed Bd.named Bd.method).1
  have X0 : Stand p l e ({ frames := 5, cells := 17, slots := 104, locals := 3137 } : Room) s m #[(.ref a_1), (.ref a_2), (.int 1)] below meth c s₁ [] 0 0 := Stand.of_body Bd
  have e0 : s₁.heap = h0 := by rw [← hh, Bd.state]; rfl
  have N0 := Fr.nil n0
  have X0 : Stand p l e ({ frames := 5, cells := 17, slots := 104, locals := 3137 } : Room) (s.setVm s.vm) m #[(.ref a_1), (.ref a_2), (.int 1)] below meth c s₁ [] 0 0 := X0
  have hZ : Z.Warmed39 (s.setVm s.vm).vm := hZ
  have hown : (s.setVm s.vm).vm.findClass own_N1 = some m.cls := hown
  have hS0 : s.Since s.vm 0 := (State.WarmedH.refl s).since 0
  have z0 : n0 ≤ h0.size := Z0
  have z1 := own_lt pr_A_a_2.lt
  have z2 := own_lt pr_A_ob0.lt
  have z3 := own_lt pr_A_ob1.lt
  have z4 := own_lt pr_A_ob2.lt
  have z5 := own_lt pr_E_a_1.lt
  have z6 := own_lt pr_F_a_1_bodies.lt
  have z7 := own_lt pr_F_a_1_bodyStarts.lt
  have z8 := own_lt pr_F_a_1_clauseCount.lt
  have z9 := own_lt pr_F_a_1_derivationStarts.lt
  have z10 := own_lt pr_F_a_1_derivations.lt
  have z11 := own_lt pr_F_a_1_heads.lt
  have z12 := own_lt pr_F_a_1_occurrenceStarts.lt
  have z13 := own_lt pr_F_a_1_occurrences.lt
  have z14 := own_lt pr_F_a_1_variableCount.lt
  have ho15 := ho_
  simp only [own_lts, and_true] at ho15
  have ho16 := ho_g
  simp only [own_lts, and_true] at ho16
  have K0 : Keep h0 h0 [a_1] := Keep.refl h0 _
  show own_Go p.tables e below (fun t o => t.status = .running ∧ Ended t below o ∧ ∃ v L, o = .returned v ∧ own_Q8_s1 Z a_1 a_2 g_lam ob0 ob1 ob2 u_0 u_1 u_2 h0 n0 v t.heap L ∧ ReturnedEndW s o t L ({ frames := 5, cells := 17, slots := 104, locals := 3137 } : Room).cells ({ frames := 5, cells := 17, slots := 104, locals := 3137 } : Room).slots) s₁ (entryFrame m #[(.ref a_1), (.ref a_2), (.int 1)] 3)
  rw [own_ef_own_rm8_s1 m a_1 a_2]
  show own_Go _ _ _ _ s₁ (mkF m 0 #[.val (.ref a_1), .val (.ref a_2), .val (.int 1)] [])
  refine own_go (fun _ k => XS.aloadN X0.here hx rfl (hb hby own_d8_0) rfl rfl (XS.aloadN X0.here hx rfl (hb hby own_d8_1) rfl rfl (XS.iloadN X0.here hx rfl (hb hby own_d8_2) rfl k))) ?_
  obtain ⟨cq17, q17, q17'⟩ := (id pr_E_a_1).cell
  obtain ⟨_, _, ⟨T17, L17, k17, n17⟩, -, X17, hS17, gr17, ⟨Lc17, hQ17, l17, y17, z17⟩, st17⟩ := X0.privateBackS hx (y := (⟨own_N1, "propagate", "([II)Lcom/example/kalchas/kalchas/propositional/HornClauses$Trail;"⟩ : MethodName)) hown (mvT hZ (hw _ (List.mem_of_getElem? (i := 62) rfl))) (mvT hZ (hw _ (List.mem_of_getElem? (i := 63) rfl))) (own_selfsel hZ (own_w1 hw) (hw _ (List.mem_of_getElem? (i := 63) rfl)) (hw _ (List.mem_of_getElem? (i := 64) rfl)) (by decide)) (Cond.privateMethod_at (mvP hZ (hw _ (List.mem_of_getElem? (i := 64) rfl)) (args := #[]))) (mvT hZ (hw _ (List.mem_of_getElem? (i := 65) rfl))) (by decide) (backOfS (W := 0) (own_rm9_s1 l Z a0 hw [] a_1 a_2 g_lam ob0 ob1 ob2 u_0 u_1 u_2 h0 n0 (by omega) pr_A_a_2 pr_A_ob0 pr_A_ob1 pr_A_ob2 pr_E_a_1 pr_F_a_1_bodies pr_F_a_1_bodyStarts pr_F_a_1_clauseCount pr_F_a_1_derivationStarts pr_F_a_1_derivations pr_F_a_1_heads pr_F_a_1_occurrenceStarts pr_F_a_1_occurrences pr_F_a_1_variableCount pr_M_g_lam (by simp only [own_lts, and_true]; omega) (by simp only [own_lts, and_true]; omega) (by omega)) hZ (hw _ (List.mem_of_getElem? (i := 65) rfl)) (own_w2 hw) (by decide) (by decide)) (g := (mkF m 3 #[.val (.ref a_1), .val (.ref a_2), .val (.int 1)] [(.int 1), (.ref a_2), (.ref a_1)])) rfl (by rw [hml]; rfl) (Steps.refl _) (a := a_1) (by rw [e0]; exact q17) q17' (argsL := [(.ref a_2), (.int 1)]) (rest := []) (lenOf own_pd15 rfl) rfl (by show 2 * 0 + _ ≤ _; exact Nat.le_of_eq rfl) (hb hby own_d8_3) (fun _ _ => ⟨rfl, e0, (by decide : 0 + 17 ≤ _), (by decide : 0 + 104 ≤ _)⟩)
  dsimp only [Pt.U, Pt.locs, Pt.cells, Pt.slots] at X17 l17 y17 z17 st17 hQ17 hS17 gr17
  have y17 : k17 = 17 := y17
  have z17 : n17 = 104 := z17
  have Wn17 := hS17.1
  obtain ⟨X17, hS17, hZ, hown⟩ := rebS hS0 (n1 := s₁.heap.size) (by rw [e0]; omega) X17 hS17 gr17 hZ hown
  obtain ⟨x_18, x_19, x_20, x_21, x_22, x_23, x_24, x_25, rfl, N17q, K17q, f26, f27, f28, f29, f30, f31, f32, f33, f34, f35, f36, f37, f38, f39, f40, f41, f42, f43, f44, f45, f46, f47, f48, f49, f50, f51, f52, f53, f54, f55, f56⟩ := hQ17
  have N17 : Fr n0 L17 := by rw [l17]; exact Fr.app N0 N17q
  have z57 := K17q.1
  have K17 : Keep h0 T17.heap [a_1] := K0.trans K17q (allS (Or.inl (List.mem_of_getElem? (i := 0) rfl)) all0)
  have z58 := own_lt f26.lt
  have z59 := own_lt f27.lt
  have z60 := own_lt f28.lt
  have z61 := own_lt f29.lt
  have z62 := own_lt f30.lt
  have z63 := own_lt f31.lt
  have z64 := own_lt f32.lt
  have z65 := own_lt f33.lt
  have z66 := own_lt f34.lt
  have z67 := own_lt f35.lt
  have z68 := own_lt f36.lt
  have z69 := own_lt f37.lt
  have z70 := own_lt f38.lt
  have z71 := own_lt f39.lt
  have z72 := own_lt f40.lt
  have z73 := own_lt f41.lt
  have z74 := own_lt f42.lt
  have z75 := own_lt f43.lt
  have z76 := own_lt f44.lt
  have z77 := own_lt f45.lt
  have z78 := own_lt f46.lt
  have z79 := own_lt f47.lt
  simp only [own_lts, and_true] at f56
  refine own_go (fun _ k => st17.trans k) ?_
  show own_Go _ _ _ _ T17 (mkF m 6 #[.val (.ref a_1), .val (.ref a_2), .val (.int 1)] [(.ref x_18)])
  refine own_go (fun _ k => XS.iloadN X17.here hx rfl (hb hby own_d8_6) rfl k) ?_
  obtain ⟨cq80, kq80, q80a, q80b, q80c⟩ := isOf hZ rfl f36
  obtain ⟨_, _, ⟨T80, L80, k80, n80⟩, -, X80, ⟨Lc80, hQ80, l80, y80, z80⟩, st80⟩ := X17.virtualBack hx (y := (⟨own_N0, "isTrue", "(I)Z"⟩ : MethodName)) (z := (⟨own_N0, "isTrue", "(I)Z"⟩ : MethodName)) hown (mvT hZ (hw _ (List.mem_of_getElem? (i := 131) rfl))) (mvT hZ (hw _ (List.mem_of_getElem? (i := 132) rfl))) (notFace_of_selects (args := #[]) (mvT hZ (own_w134 hw))) (mvT hZ (own_w134 hw)) (mvT hZ (hw _ (List.mem_of_getElem? (i := 133) rfl))) (by decide) (backOf (W := 0) (own_rm21_s1 l Z a0 hw [] x_18 x_25 T17.heap n0 (by omega) f47 f40 (by simp only [own_lts, and_true]; omega)) hZ (hw _ (List.mem_of_getElem? (i := 135) rfl)) (own_w112 hw) (by decide) (by decide)) q80a q80c (g := (mkF m 7 #[.val (.ref a_1), .val (.ref a_2), .val (.int 1)] [(.int 1), (.ref x_18)])) rfl (by rw [hml]; rfl) (Steps.refl _) (argsL := [(.int 1)]) (rest := []) (lenOf own_pd13 rfl) rfl (by show 2 * 0 + _ ≤ _; exact Nat.le_of_eq rfl) (hb hby own_d8_7) (fun _ _ => ⟨rfl, rfl, (by show k17 + _ ≤ _; rw [y17]; decide), (by show n17 + _ ≤ _; rw [z17]; decide)⟩)
  dsimp only [Pt.U, Pt.locs, Pt.cells, Pt.slots] at X80 l80 y80 z80 st80 hQ80
  have y80 : k80 = 17 := own_addeq y80 (congrArg (fun q => q) y17) rfl
  have z80 : n80 = 104 := own_addeq z80 (congrArg (fun q => q) z17) rfl
  obtain ⟨rfl, N80q, e80⟩ := hQ80
  have N80 : Fr n0 L80 := by rw [l80]; exact Fr.app N17 N80q
  refine own_go (fun _ k => st80.trans k) ?_
  show own_Go _ _ _ _ T80 (mkF m 10 #[.val (.ref a_1), .val (.ref a_2), .val (.int 1)] [(.int 0)])
  obtain ⟨fs, hr, hrun, hended, hRW⟩ := X80.leaveW hS17 (by rw [e80]; omega) (v := some (.int 0)) (fun h => by rw [Bd.returns] at h; cases h)
  refine ⟨_, _, retOut X80 hx Bd.returns rfl (Or.inl ⟨rfl, Or.inr (Or.inl rfl), _, rfl⟩) (hb hby own_d8_10) hr, hrun, hended, _, _, rfl, ?_, own_monoW hRW (by rw [y80]; decide) (by rw [z80]; decide)⟩
  show own_Q8_s1 Z a_1 a_2 g_lam ob0 ob1 ob2 u_0 u_1 u_2 h0 n0 _ T80.heap _
  rw [e80]
  exact ⟨x_19, x_20, x_21, x_22, rfl, N80, K17, f26, f27, f28, f29, f30, f31, f32, f33, f34, f35, f41, f42, f43, f44, (by omega), (by omega), (by omega), (by omega), (by simp only [own_lts, and_true]; omega)⟩
theorem own_d10_7 : decode prog_6_method_17_code 7 = .ok (.return_, 1) := by decide +kernel
theorem own_ef_own_rm10_s2 (m : MethodId) (x0 : Addr) : entryFrame m #[(.ref x0)] 6 = mkF m 0 #[.val (.ref x0), .unset, .unset, .unset, .unset, .unset] [] := by first | (simp [entryFrame, mkF, argsToLocals, Value.category]; done) | rfl
def own_Q10_s2 (Z : State) (a_1 : Addr) (ob0 : Addr) (h0 : Heap) (n0 : Nat) (v : Option Value) (h : Heap) (L : List Loc) : Prop := v = none ∧ Fr n0 L ∧ h = h0
set_option maxRecDepth 65536 in
set_option maxHeartbeats 40000000 in
theorem own_rm10_s2 (l : Launch) (Z : State) (a0 : Array Value) (hw : ∀ d ∈ tables_1, d.before a0 Z = true) (ws : List Jvm.Cond) (a_1 : Addr) (ob0 : Addr) (h0 : Heap) (n0 : Nat) (Z0 : n0 ≤ h0.size) (pr_F_a_1_occurrences : Fld Z h0 a_1 own_N1 "occurrences" "[I" (.ref ob0)) (ho_ : own_lts [a_1, ob0]) :
    MetFree l (⟨own_N1, "index", "()V"⟩ : MethodName) (head1 (Jvm.Cond.code (⟨own_N1, "index", "()V"⟩ : MethodName) prog_6_method_17_code 6 none :: ws) ({ frames := 0, cells := 0, slots := 0, locals := 0 } : Room)) (fun a U => a = #[(.ref a_1)] ∧ Z.Warmed39 U.vm ∧ U.heap = h0) (fun _ _ _ _ _ => True) (fun _ U o U' => ∃ v L, o = .returned v ∧ own_Q10_s2 Z a_1 ob0 h0 n0 v U'.heap L ∧ FrameEnd U o U' L ({ frames := 0, cells := 0, slots := 0, locals := 0 } : Room).cells ({ frames := 0, cells := 0, slots := 0, locals := 0 } : Room).slots) := by
  refine MetFree.of_bodySF (plainFor_of_name own_pn0) hisR ?_
  intro p e s m args below meth c s₁ Bd hml0 hP hK
  obtain ⟨rfl, hZ, hh⟩ := hP
  have hx := Bd.exec
  have hby := Bd.bytes
  have hml : c.maxLocals = 6 := hml0
  have hown : s.vm.findClass own_N1 = some m.cls := findClass_of_methodNamed Bd.named
  have hnm := (name_of_methodNamed Bd.named Bd.method).1
  have X0 : Stand p l e ({ frames := 0, cells := 0, slots := 0, locals := 0 } : Room) s m #[(.ref a_1)] below meth c s₁ [] 0 0 := Stand.of_body Bd
  have e0 : s₁.heap = h0 := by rw [← hh, Bd.state]; rfl
  have N0 := Fr.nil n0
  have z0 : n0 ≤ h0.size := Z0
  have z1 := own_lt pr_F_a_1_occurrences.lt
  have ho2 := ho_
  simp only [own_lts, and_true] at ho2
  show own_Go p.tables e below (fun t o => t.status = .running ∧ Ended t below o ∧ ∃ v L, o = .returned v ∧ own_Q10_s2 Z a_1 ob0 h0 n0 v t.heap L ∧ FrameEnd s o t L ({ frames := 0, cells := 0, slots := 0, locals := 0 } : Room).cells ({ frames := 0, cells := 0, slots := 0, locals := 0 } : Room).slots) s₁ (entryFrame m #[(.ref a_1)] 6)
  rw [own_ef_own_rm10_s2 m a_1]
  show own_Go _ _ _ _ s₁ (mkF m 0 #[.val (.ref a_1), .unset, .unset, .unset, .unset, .unset] [])
  refine own_go (fun _ k => XS.aloadN X0.here hx rfl (hb hby own_d10_0) rfl rfl k) ?_
  obtain ⟨T3, X3, e3, st3⟩ := getF X0 hx hZ hown (host := "") (Or.inl (hw _ (List.mem_of_getElem? (i := 21) rfl))) Via.refl e0 pr_F_a_1_occurrences (g := (mkF m 1 #[.val (.ref a_1), .unset, .unset, .unset, .unset, .unset] [(.ref a_1)])) rfl rfl (hb hby own_d10_1)
  refine own_go (fun _ k => st3 _ k) ?_
  show own_Go _ _ _ _ T3 (mkF m 4 #[.val (.ref a_1), .unset, .unset, .unset, .unset, .unset] [(.ref ob0)])
  refine own_go (fun _ k => XS.ifnullNo X3.here hx rfl (hb hby own_d10_4) rfl k) ?_
  show own_Go _ _ _ _ T3 (mkF m 7 #[.val (.ref a_1), .unset, .unset, .unset, .unset, .unset] [])
  obtain ⟨fs, hr, hrun, hended, hW, hsame⟩ := X3.leave (v := none) (fun _ => rfl)
  refine ⟨_, _, X3.returnOut hx Bd.returns (hb hby own_d10_7) hr, hrun, hended, _, _, rfl, ?_, ⟨_, rfl⟩, hW, hsame.mono (by decide) (by decide)⟩
  show own_Q10_s2 Z a_1 ob0 h0 n0 _ T3.heap _
  rw [e3]
  exact ⟨rfl, N0, rfl⟩
theorem own_ef_own_rm20_s2 (m : MethodId) (x0 : Addr) : entryFrame m #[(.ref x0), (.int 0), (.int (-1))] 3 = mkF m 0 #[.val (.ref x0), .val (.int 0), .val (.int (-1))] [] := by first | (simp [entryFrame, mkF, argsToLocals, Value.category]; done) | rfl
def own_Q20_s2 (Z : State) (a_1 : Addr) (ob2 : Addr) (ob1 : Addr) (ob0 : Addr) (h0 : Heap) (n0 : Nat) (v : Option Value) (h : Heap) (L : List Loc) : Prop := v = none ∧ Fr n0 L ∧ Keep h0 h [ob0, ob1, ob2, a_1] ∧ own_AV Z h ob0 .boolean (3 : Int32) (own_upd (fun _ => (.int 0)) 0 (.int 1)) ∧ own_AV Z h ob1 .int 3 (own_upd (fun _ => (.int 0)) 0 (.int (-1))) ∧ own_AV Z h ob2 .int 3 (own_upd (fun _ => (.int 0)) 0 (.int 0)) ∧ Exa Z h a_1 own_N0 ∧ Fld Z h a_1 own_N0 "order" "[I" (.ref ob2) ∧ Fld Z h a_1 own_N0 "reasons" "[I" (.ref ob1) ∧ Fld Z h a_1 own_N0 "size" "I" (.int 1) ∧ Fld Z h a_1 own_N0 "values" "[Z" (.ref ob0)
set_option maxRecDepth 65536 in
set_option maxHeartbeats 40000000 in
theorem own_rm20_s2 (l : Launch) (Z : State) (a0 : Array Value) (hw : ∀ d ∈ tables_1, d.before a0 Z = true) (ws : List Jvm.Cond) (a_1 : Addr) (ob2 : Addr) (ob1 : Addr) (ob0 : Addr) (h0 : Heap) (n0 : Nat) (Z0 : n0 ≤ h0.size) (pr_A_ob0 : own_AV Z h0 ob0 .boolean (3 : Int32) (fun _ => (.int 0))) (pr_A_ob1 : own_AV Z h0 ob1 .int 3 (fun _ => (.int 0))) (pr_A_ob2 : own_AV Z h0 ob2 .int 3 (fun _ => (.int 0))) (pr_E_a_1 : Exa Z h0 a_1 own_N0) (pr_F_a_1_order : Fld Z h0 a_1 own_N0 "order" "[I" (.ref ob2)) (pr_F_a_1_reasons : Fld Z h0 a_1 own_N0 "reasons" "[I" (.ref ob1)) (pr_F_a_1_size : Fld Z h0 a_1 own_N0 "size" "I" (.int 0)) (pr_F_a_1_values : Fld Z h0 a_1 own_N0 "values" "[Z" (.ref ob0)) (ho_ : own_lts [a_1, ob0, ob1, ob2]) (gw_ob0 : n0 ≤ ob0) (gw_ob1 : n0 ≤ ob1) (gw_ob2 : n0 ≤ ob2) (gw_a_1 : n0 ≤ a_1) :
    MetFree l (⟨own_N0, "assign", "(II)V"⟩ : MethodName) (head1 (Jvm.Cond.code (⟨own_N0, "assign", "(II)V"⟩ : MethodName) prog_7_method_2_code 3 none :: ws) ({ frames := 0, cells := 0, slots := 0, locals := 0 } : Room)) (fun a U => a = #[(.ref a_1), (.int 0), (.int (-1))] ∧ Z.Warmed39 U.vm ∧ U.heap = h0) (fun _ _ _ _ _ => True) (fun _ U o U' => ∃ v L, o = .returned v ∧ own_Q20_s2 Z a_1 ob2 ob1 ob0 h0 n0 v U'.heap L ∧ FrameEnd U o U' L ({ frames := 0, cells := 0, slots := 0, locals := 0 } : Room).cells ({ frames := 0, cells := 0, slots := 0, locals := 0 } : Room).slots) := by
  refine MetFree.of_bodySF (plainFor_of_name own_pn3) hisR ?_
  intro p e s m args below meth c s₁ Bd hml0 hP hK
  obtain ⟨rfl, hZ, hh⟩ := hP
  have hx := Bd.exec
  have hby := Bd.bytes
  have hml : c.maxLocals = 3 := hml0
  have hown : s.vm.findClass own_N0 = some m.cls := findClass_of_methodNamed Bd.named
  have hnm := (name_of_methodNamed Bd.named Bd.method).1
  have X0 : Stand p l e ({ frames := 0, cells := 0, slots := 0, locals := 0 } : Room) s m #[(.ref a_1), (.int 0), (.int (-1))] below meth c s₁ [] 0 0 := Stand.of_body Bd
  have e0 : s₁.heap = h0 := by rw [← hh, Bd.state]; rfl
  have N0 := Fr.nil n0
  have z0 : n0 ≤ h0.size := Z0
  have z1 := own_lt pr_A_ob0.lt
  have z2 := own_lt pr_A_ob1.lt
  have z3 := own_lt pr_A_ob2.lt
  have z4 := own_lt pr_E_a_1.lt
  have z5 := own_lt pr_F_a_1_order.lt
  have z6 := own_lt pr_F_a_1_reasons.lt
  have z7 := own_lt pr_F_a_1_size.lt
  have z8 := own_lt pr_F_a_1_values.lt
  have ho9 := ho_
  simp only [own_lts, and_true] at ho9
  have K0 : Keep h0 h0 [ob0, ob1, ob2, a_1] := Keep.refl h0 _
  show own_Go p.tables e below (fun t o => t.status = .running ∧ Ended t below o ∧ ∃ v L, o = .returned v ∧ own_Q20_s2 Z a_1 ob2 ob1 ob0 h0 n0 v t.heap L ∧ FrameEnd s o t L ({ frames := 0, cells := 0, slots := 0, locals := 0 } : Room).cells ({ frames := 0, cells := 0, slots := 0, locals := 0 } : Room).slots) s₁ (entryFrame m #[(.ref a_1), (.int 0), (.int (-1))] 3)
  rw [own_ef_own_rm20_s2 m a_1]
  show own_Go _ _ _ _ s₁ (mkF m 0 #[.val (.ref a_1), .val (.int 0), .val (.int (-1))] [])
  refine own_go (fun _ k => XS.aloadN X0.here hx rfl (hb hby own_d20_0) rfl rfl k) ?_
  obtain ⟨T10, X10, e10, st10⟩ := getF X0 hx hZ hown (host := "") (Or.inl (own_w118 hw)) Via.refl e0 pr_F_a_1_values (g := (mkF m 1 #[.val (.ref a_1), .val (.int 0), .val (.int (-1))] [(.ref a_1)])) rfl rfl (hb hby own_d20_1)
  refine own_go (fun _ k => st10 _ k) ?_
  show own_Go _ _ _ _ T10 (mkF m 4 #[.val (.ref a_1), .val (.int 0), .val (.int (-1))] [(.ref ob0)])
  refine own_go (fun _ k => XS.iloadN X10.here hx rfl (hb hby own_d20_4) rfl k) ?_
  obtain ⟨q11, c11, R11, s11, t11⟩ := id pr_A_ob0
  have hin11 : ¬ ((0 : Int32) < 0 ∨ c11.slots.size ≤ ((0 : Int32)).toNatClampNeg) := inb_of s11 ⟨by decide, by decide⟩
  have u11 : c11.slots[((0 : Int32)).toNatClampNeg]? = some (.int 0) := own_at (k := 0) t11 s11 hin11 (by decide) (rfl)
  refine own_go (fun _ k => X10.baloadBooleans hx (j := (0 : Int32)) (v := (.int 0)) (by rw [e10]; exact R11.1) (State.isArrayOf_alike hZ.alike R11.2.1) R11.2.2 hin11 u11 (g := (mkF m 5 #[.val (.ref a_1), .val (.int 0), .val (.int (-1))] [(.int 0), (.ref ob0)])) rfl rfl (hb hby own_d20_5) _ k) ?_
  show own_Go _ _ _ _ T10 (mkF m 6 #[.val (.ref a_1), .val (.int 0), .val (.int (-1))] [(.int 0)])
  have hc12 : (0 : Int32) = 0 := by decide
  refine own_go (fun _ k => XS.ifNo X10.here hx rfl (hb hby own_d20_6) rfl (Jvm.Free.XT.i0_ne_f hc12) (XS.aloadN X10.here hx rfl (hb hby own_d20_9) rfl rfl k)) ?_
  obtain ⟨T13, X13, e13, st13⟩ := getF X10 hx hZ hown (host := "") (Or.inl (own_w118 hw)) Via.refl e10 pr_F_a_1_values (g := (mkF m 10 #[.val (.ref a_1), .val (.int 0), .val (.int (-1))] [(.ref a_1)])) rfl rfl (hb hby own_d20_10)
  refine own_go (fun _ k => st13 _ k) ?_
  show own_Go _ _ _ _ T13 (mkF m 13 #[.val (.ref a_1), .val (.int 0), .val (.int (-1))] [(.ref ob0)])
  refine own_go (fun _ k => XS.iloadN X13.here hx rfl (hb hby own_d20_13) rfl (XS.iconst X13.here hx rfl (hb hby own_d20_14) k)) ?_
  obtain ⟨q14, c14, R14, s14, t14⟩ := id pr_A_ob0
  have hin14 : ¬ ((0 : Int32) < 0 ∨ c14.slots.size ≤ ((0 : Int32)).toNatClampNeg) := inb_of s14 ⟨by decide, by decide⟩
  obtain ⟨T15, h15, X15, e15, W15, st15⟩ := stZ X13 hx hZ e13 R14 (j := (0 : Int32)) hin14 (g := (mkF m 15 #[.val (.ref a_1), .val (.int 0), .val (.int (-1))] [(.int 1), (.int 0), (.ref ob0)])) rfl rfl (hb hby own_d20_15)
  rw [(show nar .boolean (1 : Int32) = (1 : Int32) from rfl)] at W15
  have V15 : own_AV Z h15 ob0 .boolean (3 : Int32) (own_upd (fun _ => (.int 0)) 0 (.int 1)) := own_AV.set (k := 0) pr_A_ob0 W15 (by decide)
  have z16 := W15.size
  have K15 : Keep h0 h15 [ob0, ob1, ob2, a_1] := K0.wr W15 (Or.inl (List.mem_of_getElem? (i := 0) rfl))
  have N15 := Fr.snoc X15 N0 (by omega : n0 ≤ ob0)
  refine own_go (fun _ k => st15 _ k) ?_
  show own_Go _ _ _ _ T15 (mkF m 16 #[.val (.ref a_1), .val (.int 0), .val (.int (-1))] [])
  refine own_go (fun _ k => XS.aloadN X15.here hx rfl (hb hby own_d20_16) rfl rfl k) ?_
  have f17 := (pr_F_a_1_reasons.other W15 (Or.inl (own_ne (by omega))))
  obtain ⟨T18, X18, e18, st18⟩ := getF X15 hx hZ hown (host := "") (Or.inl (hw _ (List.mem_of_getElem? (i := 120) rfl))) Via.refl e15 f17 (g := (mkF m 17 #[.val (.ref a_1), .val (.int 0), .val (.int (-1))] [(.ref a_1)])) rfl rfl (hb hby own_d20_17)
  refine own_go (fun _ k => st18 _ k) ?_
  show own_Go _ _ _ _ T18 (mkF m 20 #[.val (.ref a_1), .val (.int 0), .val (.int (-1))] [(.ref ob1)])
  refine own_go (fun _ k => XS.iloadN X18.here hx rfl (hb hby own_d20_20) rfl (XS.iloadN X18.here hx rfl (hb hby own_d20_21) rfl k)) ?_
  have f19 := (pr_A_ob1.other W15 (own_ne (by omega)))
  obtain ⟨q20, c20, R20, s20, t20⟩ := id f19
  have hin20 : ¬ ((0 : Int32) < 0 ∨ c20.slots.size ≤ ((0 : Int32)).toNatClampNeg) := inb_of s20 ⟨by decide, by decide⟩
  obtain ⟨T21, h21, X21, e21, W21, st21⟩ := stI X18 hx hZ e18 R20 (j := (0 : Int32)) hin20 (g := (mkF m 22 #[.val (.ref a_1), .val (.int 0), .val (.int (-1))] [(.int (-1)), (.int 0), (.ref ob1)])) rfl rfl (hb hby own_d20_22)
  have V21 : own_AV Z h21 ob1 .int 3 (own_upd (fun _ => (.int 0)) 0 (.int (-1))) := own_AV.set (k := 0) f19 W21 (by decide)
  have z22 := W21.size
  have K21 : Keep h0 h21 [ob0, ob1, ob2, a_1] := K15.wr W21 (Or.inl (List.mem_of_getElem? (i := 1) rfl))
  have N21 := Fr.snoc X21 N15 (by omega : n0 ≤ ob1)
  refine own_go (fun _ k => st21 _ k) ?_
  show own_Go _ _ _ _ T21 (mkF m 23 #[.val (.ref a_1), .val (.int 0), .val (.int (-1))] [])
  refine own_go (fun _ k => XS.aloadN X21.here hx rfl (hb hby own_d20_23) rfl rfl k) ?_
  have f23 := ((pr_F_a_1_order.other W15 (Or.inl (own_ne (by omega)))).other W21 (Or.inl (own_ne (by omega))))
  obtain ⟨T24, X24, e24, st24⟩ := getF X21 hx hZ hown (host := "") (Or.inl (own_w122 hw)) Via.refl e21 f23 (g := (mkF m 24 #[.val (.ref a_1), .val (.int 0), .val (.int (-1))] [(.ref a_1)])) rfl rfl (hb hby own_d20_24)
  refine own_go (fun _ k => st24 _ k) ?_
  show own_Go _ _ _ _ T24 (mkF m 27 #[.val (.ref a_1), .val (.int 0), .val (.int (-1))] [(.ref ob2)])
  refine own_go (fun _ k => XS.aloadN X24.here hx rfl (hb hby own_d20_27) rfl rfl k) ?_
  have f25 := ((pr_F_a_1_size.other W15 (Or.inl (own_ne (by omega)))).other W21 (Or.inl (own_ne (by omega))))
  obtain ⟨T26, X26, e26, st26⟩ := getF X24 hx hZ hown (host := "") (Or.inl (own_w129 hw)) Via.refl e24 f25 (g := (mkF m 28 #[.val (.ref a_1), .val (.int 0), .val (.int (-1))] [(.ref a_1), (.ref ob2)])) rfl rfl (hb hby own_d20_28)
  refine own_go (fun _ k => st26 _ k) ?_
  show own_Go _ _ _ _ T26 (mkF m 31 #[.val (.ref a_1), .val (.int 0), .val (.int (-1))] [(.int 0), (.ref ob2)])
  refine own_go (fun _ k => XS.iloadN X26.here hx rfl (hb hby own_d20_31) rfl k) ?_
  have f27 := ((pr_A_ob2.other W15 (own_ne (by omega))).other W21 (own_ne (by omega)))
  obtain ⟨q28, c28, R28, s28, t28⟩ := id f27
  have hin28 : ¬ ((0 : Int32) < 0 ∨ c28.slots.size ≤ ((0 : Int32)).toNatClampNeg) := inb_of s28 ⟨by decide, by decide⟩
  obtain ⟨T29, h29, X29, e29, W29, st29⟩ := stI X26 hx hZ e26 R28 (j := (0 : Int32)) hin28 (g := (mkF m 32 #[.val (.ref a_1), .val (.int 0), .val (.int (-1))] [(.int 0), (.int 0), (.ref ob2)])) rfl rfl (hb hby own_d20_32)
  have V29 : own_AV Z h29 ob2 .int 3 (own_upd (fun _ => (.int 0)) 0 (.int 0)) := own_AV.set (k := 0) f27 W29 (by decide)
  have z30 := W29.size
  have K29 : Keep h0 h29 [ob0, ob1, ob2, a_1] := K21.wr W29 (Or.inl (List.mem_of_getElem? (i := 2) rfl))
  have N29 := Fr.snoc X29 N21 (by omega : n0 ≤ ob2)
  refine own_go (fun _ k => st29 _ k) ?_
  show own_Go _ _ _ _ T29 (mkF m 33 #[.val (.ref a_1), .val (.int 0), .val (.int (-1))] [])
  refine own_go (fun _ k => XS.aloadN X29.here hx rfl (hb hby own_d20_33) rfl rfl (XS.dup X29.here hx rfl (hb hby own_d20_34) rfl rfl k)) ?_
  have f31 := (f25.other W29 (Or.inl (own_ne (by omega))))
  obtain ⟨T32, X32, e32, st32⟩ := getF X29 hx hZ hown (host := "") (Or.inl (own_w129 hw)) Via.refl e29 f31 (g := (mkF m 35 #[.val (.ref a_1), .val (.int 0), .val (.int (-1))] [(.ref a_1), (.ref a_1)])) rfl rfl (hb hby own_d20_35)
  refine own_go (fun _ k => st32 _ k) ?_
  show own_Go _ _ _ _ T32 (mkF m 38 #[.val (.ref a_1), .val (.int 0), .val (.int (-1))] [(.int 0), (.ref a_1)])
  refine own_go (fun _ k => XS.iconst X32.here hx rfl (hb hby own_d20_38) (XS.iadd X32.here hx rfl (hb hby own_d20_39) rfl k)) ?_
  have f33 := (((pr_E_a_1.wr W15).wr W21).wr W29)
  obtain ⟨T34, h34, X34, e34, W34, st34⟩ := putF X32 hx hZ hown (host := "") (Or.inl (own_w129 hw)) Via.refl e32 f31 f33 (Or.inl (own_w130 hw)) (own_w111 hw) (ty := .int) (by decide) rfl rfl (g := (mkF m 40 #[.val (.ref a_1), .val (.int 0), .val (.int (-1))] [(.int 1), (.ref a_1)])) rfl rfl (hb hby own_d20_40)
  have z35 := W34.size
  have K34 : Keep h0 h34 [ob0, ob1, ob2, a_1] := K29.wr W34 (Or.inl (List.mem_of_getElem? (i := 3) rfl))
  have N34 := Fr.snoc X34 N29 (by omega : n0 ≤ a_1)
  have Fw34 : Fld Z h34 a_1 own_N0 "size" "I" (.int 1) := Fld.same W34 f31
  refine own_go (fun _ k => st34 _ k) ?_
  show own_Go _ _ _ _ T34 (mkF m 43 #[.val (.ref a_1), .val (.int 0), .val (.int (-1))] [])
  obtain ⟨fs, hr, hrun, hended, hW, hsame⟩ := X34.leave (v := none) (fun _ => rfl)
  refine ⟨_, _, X34.returnOut hx Bd.returns (hb hby own_d20_43) hr, hrun, hended, _, _, rfl, ?_, ⟨_, rfl⟩, hW, hsame.mono (by decide) (by decide)⟩
  show own_Q20_s2 Z a_1 ob2 ob1 ob0 h0 n0 _ T34.heap _
  rw [e34]
  have f37 := (((V15.other W21 (own_ne (by omega))).other W29 (own_ne (by omega))).other W34 (own_ne (by omega)))
  have f38 := ((V21.other W29 (own_ne (by omega))).other W34 (own_ne (by omega)))
  have f39 := (V29.other W34 (own_ne (by omega)))
  have f40 := (f33.wr W34)
  have f41 := ((f23.other W29 (Or.inl (own_ne (by omega)))).other W34 (Or.inr (slot_ne (Or.inr (own_w123 hw)) (Or.inl (own_w130 hw)) (by decide) (t := (.array .int)) (t' := .int) (by decide) (by decide))))
  have f42 := (((f17.other W21 (Or.inl (own_ne (by omega)))).other W29 (Or.inl (own_ne (by omega)))).other W34 (Or.inr (slot_ne (Or.inr (own_w121 hw)) (Or.inl (own_w130 hw)) (by decide) (t := (.array .int)) (t' := .int) (by decide) (by decide))))
  have f43 := ((((pr_F_a_1_values.other W15 (Or.inl (own_ne (by omega)))).other W21 (Or.inl (own_ne (by omega)))).other W29 (Or.inl (own_ne (by omega)))).other W34 (Or.inr (slot_ne (Or.inr (own_w119 hw)) (Or.inl (own_w130 hw)) (by decide) (t := (.array .boolean)) (t' := .int) (by decide) (by decide))))
  exact ⟨rfl, N34, K34, f37, f38, f39, f40, f41, f42, Fw34, f43⟩
theorem own_ef_own_rm21_s2 (m : MethodId) (x0 : Addr) : entryFrame m #[(.ref x0), (.int 1)] 2 = mkF m 0 #[.val (.ref x0), .val (.int 1)] [] := by first | (simp [entryFrame, mkF, argsToLocals, Value.category]; done) | rfl
def own_Q21_s2 (Z : State) (a_1 : Addr) (ob0 : Addr) (h0 : Heap) (n0 : Nat) (v : Option Value) (h : Heap) (L : List Loc) : Prop := v = some (.int 0) ∧ Fr n0 L ∧ h = h0
set_option maxRecDepth 65536 in
set_option maxHeartbeats 40000000 in
theorem own_rm21_s2 (l : Launch) (Z : State) (a0 : Array Value) (hw : ∀ d ∈ tables_1, d.before a0 Z = true) (ws : List Jvm.Cond) (a_1 : Addr) (ob0 : Addr) (h0 : Heap) (n0 : Nat) (Z0 : n0 ≤ h0.size) (pr_A_ob0 : own_AV Z h0 ob0 .boolean (3 : Int32) (own_upd (fun _ => (.int 0)) 0 (.int 1))) (pr_F_a_1_values : Fld Z h0 a_1 own_N0 "values" "[Z" (.ref ob0)) (ho_ : own_lts [a_1, ob0]) :
    MetFree l (⟨own_N0, "isTrue", "(I)Z"⟩ : MethodName) (head1 (Jvm.Cond.code (⟨own_N0, "isTrue", "(I)Z"⟩ : MethodName) prog_7_method_3_code 2 (some .boolean) :: ws) ({ frames := 0, cells := 0, slots := 0, locals := 0 } : Room)) (fun a U => a = #[(.ref a_1), (.int 1)] ∧ Z.Warmed39 U.vm ∧ U.heap = h0) (fun _ _ _ _ _ => True) (fun _ U o U' => ∃ v L, o = .returned v ∧ own_Q21_s2 Z a_1 ob0 h0 n0 v U'.heap L ∧ FrameEnd U o U' L ({ frames := 0, cells := 0, slots := 0, locals := 0 } : Room).cells ({ frames := 0, cells := 0, slots := 0, locals := 0 } : Room).slots) := by
  refine MetFree.of_bodySF (plainFor_of_name own_pn3) hisR ?_
  intro p e s m args below meth c s₁ Bd hml0 hP hK
  obtain ⟨rfl, hZ, hh⟩ := hP
  have hx := Bd.exec
  have hby := Bd.bytes
  have hml : c.maxLocals = 2 := hml0
  have hown : s.vm.findClass own_N0 = some m.cls := findClass_of_methodNamed Bd.named
  have hnm := (name_of_methodNamed Bd.named Bd.method).1
  have X0 : Stand p l e ({ frames := 0, cells := 0, slots := 0, locals := 0 } : Room) s m #[(.ref a_1), (.int 1)] below meth c s₁ [] 0 0 := Stand.of_body Bd
  have e0 : s₁.heap = h0 := by rw [← hh, Bd.state]; rfl
  have N0 := Fr.nil n0
  have z0 : n0 ≤ h0.size := Z0
  have z1 := own_lt pr_A_ob0.lt
  have z2 := own_lt pr_F_a_1_values.lt
  have ho3 := ho_
  simp only [own_lts, and_true] at ho3
  show own_Go p.tables e below (fun t o => t.status = .running ∧ Ended t below o ∧ ∃ v L, o = .returned v ∧ own_Q21_s2 Z a_1 ob0 h0 n0 v t.heap L ∧ FrameEnd s o t L ({ frames := 0, cells := 0, slots := 0, locals := 0 } : Room).cells ({ frames := 0, cells := 0, slots := 0, locals := 0 } : Room).slots) s₁ (entryFrame m #[(.ref a_1), (.int 1)] 2)
  rw [own_ef_own_rm21_s2 m a_1]
  show own_Go _ _ _ _ s₁ (mkF m 0 #[.val (.ref a_1), .val (.int 1)] [])
  refine own_go (fun _ k => XS.aloadN X0.here hx rfl (hb hby own_d21_0) rfl rfl k) ?_
  obtain ⟨T4, X4, e4, st4⟩ := getF X0 hx hZ hown (host := "") (Or.inl (own_w118 hw)) Via.refl e0 pr_F_a_1_values (g := (mkF m 1 #[.val (.ref a_1), .val (.int 1)] [(.ref a_1)])) rfl rfl (hb hby own_d21_1)
  refine own_go (fun _ k => st4 _ k) ?_
  show own_Go _ _ _ _ T4 (mkF m 4 #[.val (.ref a_1), .val (.int 1)] [(.ref ob0)])
  refine own_go (fun _ k => XS.iloadN X4.here hx rfl (hb hby own_d21_4) rfl k) ?_
  obtain ⟨q5, c5, R5, s5, t5⟩ := id pr_A_ob0
  have hin5 : ¬ ((1 : Int32) < 0 ∨ c5.slots.size ≤ ((1 : Int32)).toNatClampNeg) := inb_of s5 ⟨by decide, by decide⟩
  have u5 : c5.slots[((1 : Int32)).toNatClampNeg]? = some (.int 0) := own_at (k := 1) t5 s5 hin5 (by decide) (rfl)
  refine own_go (fun _ k => X4.baloadBooleans hx (j := (1 : Int32)) (v := (.int 0)) (by rw [e4]; exact R5.1) (State.isArrayOf_alike hZ.alike R5.2.1) R5.2.2 hin5 u5 (g := (mkF m 5 #[.val (.ref a_1), .val (.int 1)] [(.int 1), (.ref ob0)])) rfl rfl (hb hby own_d21_5) _ k) ?_
  show own_Go _ _ _ _ T4 (mkF m 6 #[.val (.ref a_1), .val (.int 1)] [(.int 0)])
  obtain ⟨fs, hr, hrun, hended, hW, hsame⟩ := X4.leave (v := some (.int 0)) (fun h => by rw [Bd.returns] at h; cases h)
  refine ⟨_, _, retOut X4 hx Bd.returns rfl (Or.inl ⟨rfl, Or.inr (Or.inl rfl), _, rfl⟩) (hb hby own_d21_6) hr, hrun, hended, _, _, rfl, ?_, ⟨_, rfl⟩, hW, hsame.mono (by decide) (by decide)⟩
  show own_Q21_s2 Z a_1 ob0 h0 n0 _ T4.heap _
  rw [e4]
  exact ⟨rfl, N0, rfl⟩
theorem own_ef_own_rm23_s2 (m : MethodId) (x0 : Addr) : entryFrame m #[(.ref x0), (.int 0)] 2 = mkF m 0 #[.val (.ref x0), .val (.int 0)] [] := by first | (simp [entryFrame, mkF, argsToLocals, Value.category]; done) | rfl
def own_Q23_s2 (Z : State) (a_1 : Addr) (ob0 : Addr) (h0 : Heap) (n0 : Nat) (v : Option Value) (h : Heap) (L : List Loc) : Prop := v = some (.int 0) ∧ Fr n0 L ∧ h = h0
set_option maxRecDepth 65536 in
set_option maxHeartbeats 40000000 in
theorem own_rm23_s2 (l : Launch) (Z : State) (a0 : Array Value) (hw : ∀ d ∈ tables_1, d.before a0 Z = true) (ws : List Jvm.Cond) (a_1 : Addr) (ob0 : Addr) (h0 : Heap) (n0 : Nat) (Z0 : n0 ≤ h0.size) (pr_A_ob0 : own_AV Z h0 ob0 .int 3 (own_upd (fun _ => (.int 0)) 0 (.int 0))) (pr_F_a_1_order : Fld Z h0 a_1 own_N0 "order" "[I" (.ref ob0)) (ho_ : own_lts [a_1, ob0]) :
    MetFree l (⟨own_N0, "get", "(I)I"⟩ : MethodName) (head1 (Jvm.Cond.code (⟨own_N0, "get", "(I)I"⟩ : MethodName) prog_7_method_6_code 2 (some .int) :: ws) ({ frames := 0, cells := 0, slots := 0, locals := 0 } : Room)) (fun a U => a = #[(.ref a_1), (.int 0)] ∧ Z.Warmed39 U.vm ∧ U.heap = h0) (fun _ _ _ _ _ => True) (fun _ U o U' => ∃ v L, o = .returned v ∧ own_Q23_s2 Z a_1 ob0 h0 n0 v U'.heap L ∧ FrameEnd U o U' L ({ frames := 0, cells := 0, slots := 0, locals := 0 } : Room).cells ({ frames := 0, cells := 0, slots := 0, locals := 0 } : Room).slots) := by
  refine MetFree.of_bodySF (plainFor_of_name own_pn3) hisR ?_
  intro p e s m args below meth c s₁ Bd hml0 hP hK
  obtain ⟨rfl, hZ, hh⟩ := hP
  have hx := Bd.exec
  have hby := Bd.bytes
  have hml : c.maxLocals = 2 := hml0
  have hown : s.vm.findClass own_N0 = some m.cls := findClass_of_methodNamed Bd.named
  have hnm := (name_of_methodNamed Bd.named Bd.method).1
  have X0 : Stand p l e ({ frames := 0, cells := 0, slots := 0, locals := 0 } : Room) s m #[(.ref a_1), (.int 0)] below meth c s₁ [] 0 0 := Stand.of_body Bd
  have e0 : s₁.heap = h0 := by rw [← hh, Bd.state]; rfl
  have N0 := Fr.nil n0
  have z0 : n0 ≤ h0.size := Z0
  have z1 := own_lt pr_A_ob0.lt
  have z2 := own_lt pr_F_a_1_order.lt
  have ho3 := ho_
  simp only [own_lts, and_true] at ho3
  show own_Go p.tables e below (fun t o => t.status = .running ∧ Ended t below o ∧ ∃ v L, o = .returned v ∧ own_Q23_s2 Z a_1 ob0 h0 n0 v t.heap L ∧ FrameEnd s o t L ({ frames := 0, cells := 0, slots := 0, locals := 0 } : Room).cells ({ frames := 0, cells := 0, slots := 0, locals := 0 } : Room).slots) s₁ (entryFrame m #[(.ref a_1), (.int 0)] 2)
  rw [own_ef_own_rm23_s2 m a_1]
  show own_Go _ _ _ _ s₁ (mkF m 0 #[.val (.ref a_1), .val (.int 0)] [])
  refine own_go (fun _ k => XS.aloadN X0.here hx rfl (hb hby own_d23_0) rfl rfl k) ?_
  obtain ⟨T4, X4, e4, st4⟩ := getF X0 hx hZ hown (host := "") (Or.inl (own_w122 hw)) Via.refl e0 pr_F_a_1_order (g := (mkF m 1 #[.val (.ref a_1), .val (.int 0)] [(.ref a_1)])) rfl rfl (hb hby own_d23_1)
  refine own_go (fun _ k => st4 _ k) ?_
  show own_Go _ _ _ _ T4 (mkF m 4 #[.val (.ref a_1), .val (.int 0)] [(.ref ob0)])
  refine own_go (fun _ k => XS.iloadN X4.here hx rfl (hb hby own_d23_4) rfl k) ?_
  obtain ⟨q5, c5, R5, s5, t5⟩ := id pr_A_ob0
  have hin5 : ¬ ((0 : Int32) < 0 ∨ c5.slots.size ≤ ((0 : Int32)).toNatClampNeg) := inb_of s5 ⟨by decide, by decide⟩
  have u5 : c5.slots[((0 : Int32)).toNatClampNeg]? = some (.int 0) := own_at (k := 0) t5 s5 hin5 (by decide) (rfl)
  refine own_go (fun _ k => X4.iaload hx (j := (0 : Int32)) (v := (.int 0)) (by rw [e4]; exact R5.1) (State.isArrayOf_alike hZ.alike R5.2.1) R5.2.2 hin5 u5 (g := (mkF m 5 #[.val (.ref a_1), .val (.int 0)] [(.int 0), (.ref ob0)])) rfl rfl (hb hby own_d23_5) _ k) ?_
  show own_Go _ _ _ _ T4 (mkF m 6 #[.val (.ref a_1), .val (.int 0)] [(.int 0)])
  obtain ⟨fs, hr, hrun, hended, hW, hsame⟩ := X4.leave (v := some (.int 0)) (fun h => by rw [Bd.returns] at h; cases h)
  refine ⟨_, _, retOut X4 hx Bd.returns rfl (Or.inl ⟨rfl, Or.inl rfl, _, rfl⟩) (hb hby own_d23_6) hr, hrun, hended, _, _, rfl, ?_, ⟨_, rfl⟩, hW, hsame.mono (by decide) (by decide)⟩
  show own_Q23_s2 Z a_1 ob0 h0 n0 _ T4.heap _
  rw [e4]
  exact ⟨rfl, N0, rfl⟩
theorem own_ef_own_rm20_s3 (m : MethodId) (x0 : Addr) : entryFrame m #[(.ref x0), (.int 1), (.int 0)] 3 = mkF m 0 #[.val (.ref x0), .val (.int 1), .val (.int 0)] [] := by first | (simp [entryFrame, mkF, argsToLocals, Value.category]; done) | rfl
def own_Q20_s3 (Z : State) (a_1 : Addr) (ob2 : Addr) (ob1 : Addr) (ob0 : Addr) (h0 : Heap) (n0 : Nat) (v : Option Value) (h : Heap) (L : List Loc) : Prop := v = none ∧ Fr n0 L ∧ Keep h0 h [ob0, ob1, ob2, a_1] ∧ own_AV Z h ob0 .boolean (3 : Int32) (own_upd (own_upd (fun _ => (.int 0)) 0 (.int 1)) 1 (.int 1)) ∧ own_AV Z h ob1 .int 3 (own_upd (own_upd (fun _ => (.int 0)) 0 (.int (-1))) 1 (.int 0)) ∧ own_AV Z h ob2 .int 3 (own_upd (own_upd (fun _ => (.int 0)) 0 (.int 0)) 1 (.int 1)) ∧ Exa Z h a_1 own_N0 ∧ Fld Z h a_1 own_N0 "order" "[I" (.ref ob2) ∧ Fld Z h a_1 own_N0 "reasons" "[I" (.ref ob1) ∧ Fld Z h a_1 own_N0 "size" "I" (.int 2) ∧ Fld Z h a_1 own_N0 "values" "[Z" (.ref ob0)
set_option maxRecDepth 65536 in
set_option maxHeartbeats 40000000 in
theorem own_rm20_s3 (l : Launch) (Z : State) (a0 : Array Value) (hw : ∀ d ∈ tables_1, d.before a0 Z = true) (ws : List Jvm.Cond) (a_1 : Addr) (ob2 : Addr) (ob1 : Addr) (ob0 : Addr) (h0 : Heap) (n0 : Nat) (Z0 : n0 ≤ h0.size) (pr_A_ob0 : own_AV Z h0 ob0 .boolean (3 : Int32) (own_upd (fun _ => (.int 0)) 0 (.int 1))) (pr_A_ob1 : own_AV Z h0 ob1 .int 3 (own_upd (fun _ => (.int 0)) 0 (.int (-1)))) (pr_A_ob2 : own_AV Z h0 ob2 .int 3 (own_upd (fun _ => (.int 0)) 0 (.int 0))) (pr_E_a_1 : Exa Z h0 a_1 own_N0) (pr_F_a_1_order : Fld Z h0 a_1 own_N0 "order" "[I" (.ref ob2)) (pr_F_a_1_reasons : Fld Z h0 a_1 own_N0 "reasons" "[I" (.ref ob1)) (pr_F_a_1_size : Fld Z h0 a_1 own_N0 "size" "I" (.int 1)) (pr_F_a_1_values : Fld Z h0 a_1 own_N0 "values" "[Z" (.ref ob0)) (ho_ : own_lts [a_1, ob0, ob1, ob2]) (gw_ob0 : n0 ≤ ob0) (gw_ob1 : n0 ≤ ob1) (gw_ob2 : n0 ≤ ob2) (gw_a_1 : n0 ≤ a_1) :
    MetFree l (⟨own_N0, "assign", "(II)V"⟩ : MethodName) (head1 (Jvm.Cond.code (⟨own_N0, "assign", "(II)V"⟩ : MethodName) prog_7_method_2_code 3 none :: ws) ({ frames := 0, cells := 0, slots := 0, locals := 0 } : Room)) (fun a U => a = #[(.ref a_1), (.int 1), (.int 0)] ∧ Z.Warmed39 U.vm ∧ U.heap = h0) (fun _ _ _ _ _ => True) (fun _ U o U' => ∃ v L, o = .returned v ∧ own_Q20_s3 Z a_1 ob2 ob1 ob0 h0 n0 v U'.heap L ∧ FrameEnd U o U' L ({ frames := 0, cells := 0, slots := 0, locals := 0 } : Room).cells ({ frames := 0, cells := 0, slots := 0, locals := 0 } : Room).slots) := by
  refine MetFree.of_bodySF (plainFor_of_name own_pn3) hisR ?_
  intro p e s m args below meth c s₁ Bd hml0 hP hK
  obtain ⟨rfl, hZ, hh⟩ := hP
  have hx := Bd.exec
  have hby := Bd.bytes
  have hml : c.maxLocals = 3 := hml0
  have hown : s.vm.findClass own_N0 = some m.cls := findClass_of_methodNamed Bd.named
  have hnm := (name_of_methodNamed Bd.named Bd.method).1
  have X0 : Stand p l e ({ frames := 0, cells := 0, slots := 0, locals := 0 } : Room) s m #[(.ref a_1), (.int 1), (.int 0)] below meth c s₁ [] 0 0 := Stand.of_body Bd
  have e0 : s₁.heap = h0 := by rw [← hh, Bd.state]; rfl
  have N0 := Fr.nil n0
  have z0 : n0 ≤ h0.size := Z0
  have z1 := own_lt pr_A_ob0.lt
  have z2 := own_lt pr_A_ob1.lt
  have z3 := own_lt pr_A_ob2.lt
  have z4 := own_lt pr_E_a_1.lt
  have z5 := own_lt pr_F_a_1_order.lt
  have z6 := own_lt pr_F_a_1_reasons.lt
  have z7 := own_lt pr_F_a_1_size.lt
  have z8 := own_lt pr_F_a_1_values.lt
  have ho9 := ho_
  simp only [own_lts, and_true] at ho9
  have K0 : Keep h0 h0 [ob0, ob1, ob2, a_1] := Keep.refl h0 _
  show own_Go p.tables e below (fun t o => t.status = .running ∧ Ended t below o ∧ ∃ v L, o = .returned v ∧ own_Q20_s3 Z a_1 ob2 ob1 ob0 h0 n0 v t.heap L ∧ FrameEnd s o t L ({ frames := 0, cells := 0, slots := 0, locals := 0 } : Room).cells ({ frames := 0, cells := 0, slots := 0, locals := 0 } : Room).slots) s₁ (entryFrame m #[(.ref a_1), (.int 1), (.int 0)] 3)
  rw [own_ef_own_rm20_s3 m a_1]
  show own_Go _ _ _ _ s₁ (mkF m 0 #[.val (.ref a_1), .val (.int 1), .val (.int 0)] [])
  refine own_go (fun _ k => XS.aloadN X0.here hx rfl (hb hby own_d20_0) rfl rfl k) ?_
  obtain ⟨T10, X10, e10, st10⟩ := getF X0 hx hZ hown (host := "") (Or.inl (own_w118 hw)) Via.refl e0 pr_F_a_1_values (g := (mkF m 1 #[.val (.ref a_1), .val (.int 1), .val (.int 0)] [(.ref a_1)])) rfl rfl (hb hby own_d20_1)
  refine own_go (fun _ k => st10 _ k) ?_
  show own_Go _ _ _ _ T10 (mkF m 4 #[.val (.ref a_1), .val (.int 1), .val (.int 0)] [(.ref ob0)])
  refine own_go (fun _ k => XS.iloadN X10.here hx rfl (hb hby own_d20_4) rfl k) ?_
  obtain ⟨q11, c11, R11, s11, t11⟩ := id pr_A_ob0
  have hin11 : ¬ ((1 : Int32) < 0 ∨ c11.slots.size ≤ ((1 : Int32)).toNatClampNeg) := inb_of s11 ⟨by decide, by decide⟩
  have u11 : c11.slots[((1 : Int32)).toNatClampNeg]? = some (.int 0) := own_at (k := 1) t11 s11 hin11 (by decide) (rfl)
  refine own_go (fun _ k => X10.baloadBooleans hx (j := (1 : Int32)) (v := (.int 0)) (by rw [e10]; exact R11.1) (State.isArrayOf_alike hZ.alike R11.2.1) R11.2.2 hin11 u11 (g := (mkF m 5 #[.val (.ref a_1), .val (.int 1), .val (.int 0)] [(.int 1), (.ref ob0)])) rfl rfl (hb hby own_d20_5) _ k) ?_
  show own_Go _ _ _ _ T10 (mkF m 6 #[.val (.ref a_1), .val (.int 1), .val (.int 0)] [(.int 0)])
  have hc12 : (0 : Int32) = 0 := by decide
  refine own_go (fun _ k => XS.ifNo X10.here hx rfl (hb hby own_d20_6) rfl (Jvm.Free.XT.i0_ne_f hc12) (XS.aloadN X10.here hx rfl (hb hby own_d20_9) rfl rfl k)) ?_
  obtain ⟨T13, X13, e13, st13⟩ := getF X10 hx hZ hown (host := "") (Or.inl (own_w118 hw)) Via.refl e10 pr_F_a_1_values (g := (mkF m 10 #[.val (.ref a_1), .val (.int 1), .val (.int 0)] [(.ref a_1)])) rfl rfl (hb hby own_d20_10)
  refine own_go (fun _ k => st13 _ k) ?_
  show own_Go _ _ _ _ T13 (mkF m 13 #[.val (.ref a_1), .val (.int 1), .val (.int 0)] [(.ref ob0)])
  refine own_go (fun _ k => XS.iloadN X13.here hx rfl (hb hby own_d20_13) rfl (XS.iconst X13.here hx rfl (hb hby own_d20_14) k)) ?_
  obtain ⟨q14, c14, R14, s14, t14⟩ := id pr_A_ob0
  have hin14 : ¬ ((1 : Int32) < 0 ∨ c14.slots.size ≤ ((1 : Int32)).toNatClampNeg) := inb_of s14 ⟨by decide, by decide⟩
  obtain ⟨T15, h15, X15, e15, W15, st15⟩ := stZ X13 hx hZ e13 R14 (j := (1 : Int32)) hin14 (g := (mkF m 15 #[.val (.ref a_1), .val (.int 1), .val (.int 0)] [(.int 1), (.int 1), (.ref ob0)])) rfl rfl (hb hby own_d20_15)
  rw [(show nar .boolean (1 : Int32) = (1 : Int32) from rfl)] at W15
  have V15 : own_AV Z h15 ob0 .boolean (3 : Int32) (own_upd (own_upd (fun _ => (.int 0)) 0 (.int 1)) 1 (.int 1)) := own_AV.set (k := 1) pr_A_ob0 W15 (by decide)
  have z16 := W15.size
  have K15 : Keep h0 h15 [ob0, ob1, ob2, a_1] := K0.wr W15 (Or.inl (List.mem_of_getElem? (i := 0) rfl))
  have N15 := Fr.snoc X15 N0 (by omega : n0 ≤ ob0)
  refine own_go (fun _ k => st15 _ k) ?_
  show own_Go _ _ _ _ T15 (mkF m 16 #[.val (.ref a_1), .val (.int 1), .val (.int 0)] [])
  refine own_go (fun _ k => XS.aloadN X15.here hx rfl (hb hby own_d20_16) rfl rfl k) ?_
  have f17 := (pr_F_a_1_reasons.other W15 (Or.inl (own_ne (by omega))))
  obtain ⟨T18, X18, e18, st18⟩ := getF X15 hx hZ hown (host := "") (Or.inl (hw _ (List.mem_of_getElem? (i := 120) rfl))) Via.refl e15 f17 (g := (mkF m 17 #[.val (.ref a_1), .val (.int 1), .val (.int 0)] [(.ref a_1)])) rfl rfl (hb hby own_d20_17)
  refine own_go (fun _ k => st18 _ k) ?_
  show own_Go _ _ _ _ T18 (mkF m 20 #[.val (.ref a_1), .val (.int 1), .val (.int 0)] [(.ref ob1)])
  refine own_go (fun _ k => XS.iloadN X18.here hx rfl (hb hby own_d20_20) rfl (XS.iloadN X18.here hx rfl (hb hby own_d20_21) rfl k)) ?_
  have f19 := (pr_A_ob1.other W15 (own_ne (by omega)))
  obtain ⟨q20, c20, R20, s20, t20⟩ := id f19
  have hin20 : ¬ ((1 : Int32) < 0 ∨ c20.slots.size ≤ ((1 : Int32)).toNatClampNeg) := inb_of s20 ⟨by decide, by decide⟩
  obtain ⟨T21, h21, X21, e21, W21, st21⟩ := stI X18 hx hZ e18 R20 (j := (1 : Int32)) hin20 (g := (mkF m 22 #[.val (.ref a_1), .val (.int 1), .val (.int 0)] [(.int 0), (.int 1), (.ref ob1)])) rfl rfl (hb hby own_d20_22)
  have V21 : own_AV Z h21 ob1 .int 3 (own_upd (own_upd (fun _ => (.int 0)) 0 (.int (-1))) 1 (.int 0)) := own_AV.set (k := 1) f19 W21 (by decide)
  have z22 := W21.size
  have K21 : Keep h0 h21 [ob0, ob1, ob2, a_1] := K15.wr W21 (Or.inl (List.mem_of_getElem? (i := 1) rfl))
  have N21 := Fr.snoc X21 N15 (by omega : n0 ≤ ob1)
  refine own_go (fun _ k => st21 _ k) ?_
  show own_Go _ _ _ _ T21 (mkF m 23 #[.val (.ref a_1), .val (.int 1), .val (.int 0)] [])
  refine own_go (fun _ k => XS.aloadN X21.here hx rfl (hb hby own_d20_23) rfl rfl k) ?_
  have f23 := ((pr_F_a_1_order.other W15 (Or.inl (own_ne (by omega)))).other W21 (Or.inl (own_ne (by omega))))
  obtain ⟨T24, X24, e24, st24⟩ := getF X21 hx hZ hown (host := "") (Or.inl (own_w122 hw)) Via.refl e21 f23 (g := (mkF m 24 #[.val (.ref a_1), .val (.int 1), .val (.int 0)] [(.ref a_1)])) rfl rfl (hb hby own_d20_24)
  refine own_go (fun _ k => st24 _ k) ?_
  show own_Go _ _ _ _ T24 (mkF m 27 #[.val (.ref a_1), .val (.int 1), .val (.int 0)] [(.ref ob2)])
  refine own_go (fun _ k => XS.aloadN X24.here hx rfl (hb hby own_d20_27) rfl rfl k) ?_
  have f25 := ((pr_F_a_1_size.other W15 (Or.inl (own_ne (by omega)))).other W21 (Or.inl (own_ne (by omega))))
  obtain ⟨T26, X26, e26, st26⟩ := getF X24 hx hZ hown (host := "") (Or.inl (own_w129 hw)) Via.refl e24 f25 (g := (mkF m 28 #[.val (.ref a_1), .val (.int 1), .val (.int 0)] [(.ref a_1), (.ref ob2)])) rfl rfl (hb hby own_d20_28)
  refine own_go (fun _ k => st26 _ k) ?_
  show own_Go _ _ _ _ T26 (mkF m 31 #[.val (.ref a_1), .val (.int 1), .val (.int 0)] [(.int 1), (.ref ob2)])
  refine own_go (fun _ k => XS.iloadN X26.here hx rfl (hb hby own_d20_31) rfl k) ?_
  have f27 := ((pr_A_ob2.other W15 (own_ne (by omega))).other W21 (own_ne (by omega)))
  obtain ⟨q28, c28, R28, s28, t28⟩ := id f27
  have hin28 : ¬ ((1 : Int32) < 0 ∨ c28.slots.size ≤ ((1 : Int32)).toNatClampNeg) := inb_of s28 ⟨by decide, by decide⟩
  obtain ⟨T29, h29, X29, e29, W29, st29⟩ := stI X26 hx hZ e26 R28 (j := (1 : Int32)) hin28 (g := (mkF m 32 #[.val (.ref a_1), .val (.int 1), .val (.int 0)] [(.int 1), (.int 1), (.ref ob2)])) rfl rfl (hb hby own_d20_32)
  have V29 : own_AV Z h29 ob2 .int 3 (own_upd (own_upd (fun _ => (.int 0)) 0 (.int 0)) 1 (.int 1)) := own_AV.set (k := 1) f27 W29 (by decide)
  have z30 := W29.size
  have K29 : Keep h0 h29 [ob0, ob1, ob2, a_1] := K21.wr W29 (Or.inl (List.mem_of_getElem? (i := 2) rfl))
  have N29 := Fr.snoc X29 N21 (by omega : n0 ≤ ob2)
  refine own_go (fun _ k => st29 _ k) ?_
  show own_Go _ _ _ _ T29 (mkF m 33 #[.val (.ref a_1), .val (.int 1), .val (.int 0)] [])
  refine own_go (fun _ k => XS.aloadN X29.here hx rfl (hb hby own_d20_33) rfl rfl (XS.dup X29.here hx rfl (hb hby own_d20_34) rfl rfl k)) ?_
  have f31 := (f25.other W29 (Or.inl (own_ne (by omega))))
  obtain ⟨T32, X32, e32, st32⟩ := getF X29 hx hZ hown (host := "") (Or.inl (own_w129 hw)) Via.refl e29 f31 (g := (mkF m 35 #[.val (.ref a_1), .val (.int 1), .val (.int 0)] [(.ref a_1), (.ref a_1)])) rfl rfl (hb hby own_d20_35)
  refine own_go (fun _ k => st32 _ k) ?_
  show own_Go _ _ _ _ T32 (mkF m 38 #[.val (.ref a_1), .val (.int 1), .val (.int 0)] [(.int 1), (.ref a_1)])
  refine own_go (fun _ k => XS.iconst X32.here hx rfl (hb hby own_d20_38) (XS.iadd X32.here hx rfl (hb hby own_d20_39) rfl k)) ?_
  have f33 := (((pr_E_a_1.wr W15).wr W21).wr W29)
  obtain ⟨T34, h34, X34, e34, W34, st34⟩ := putF X32 hx hZ hown (host := "") (Or.inl (own_w129 hw)) Via.refl e32 f31 f33 (Or.inl (own_w130 hw)) (own_w111 hw) (ty := .int) (by decide) rfl rfl (g := (mkF m 40 #[.val (.ref a_1), .val (.int 1), .val (.int 0)] [(.int 2), (.ref a_1)])) rfl rfl (hb hby own_d20_40)
  have z35 := W34.size
  have K34 : Keep h0 h34 [ob0, ob1, ob2, a_1] := K29.wr W34 (Or.inl (List.mem_of_getElem? (i := 3) rfl))
  have N34 := Fr.snoc X34 N29 (by omega : n0 ≤ a_1)
  have Fw34 : Fld Z h34 a_1 own_N0 "size" "I" (.int 2) := Fld.same W34 f31
  refine own_go (fun _ k => st34 _ k) ?_
  show own_Go _ _ _ _ T34 (mkF m 43 #[.val (.ref a_1), .val (.int 1), .val (.int 0)] [])
  obtain ⟨fs, hr, hrun, hended, hW, hsame⟩ := X34.leave (v := none) (fun _ => rfl)
  refine ⟨_, _, X34.returnOut hx Bd.returns (hb hby own_d20_43) hr, hrun, hended, _, _, rfl, ?_, ⟨_, rfl⟩, hW, hsame.mono (by decide) (by decide)⟩
  show own_Q20_s3 Z a_1 ob2 ob1 ob0 h0 n0 _ T34.heap _
  rw [e34]
  have f37 := (((V15.other W21 (own_ne (by omega))).other W29 (own_ne (by omega))).other W34 (own_ne (by omega)))
  have f38 := ((V21.other W29 (own_ne (by omega))).other W34 (own_ne (by omega)))
  have f39 := (V29.other W34 (own_ne (by omega)))
  have f40 := (f33.wr W34)
  have f41 := ((f23.other W29 (Or.inl (own_ne (by omega)))).other W34 (Or.inr (slot_ne (Or.inr (own_w123 hw)) (Or.inl (own_w130 hw)) (by decide) (t := (.array .int)) (t' := .int) (by decide) (by decide))))
  have f42 := (((f17.other W21 (Or.inl (own_ne (by omega)))).other W29 (Or.inl (own_ne (by omega)))).other W34 (Or.inr (slot_ne (Or.inr (own_w121 hw)) (Or.inl (own_w130 hw)) (by decide) (t := (.array .int)) (t' := .int) (by decide) (by decide))))
  have f43 := ((((pr_F_a_1_values.other W15 (Or.inl (own_ne (by omega)))).other W21 (Or.inl (own_ne (by omega)))).other W29 (Or.inl (own_ne (by omega)))).other W34 (Or.inr (slot_ne (Or.inr (own_w119 hw)) (Or.inl (own_w130 hw)) (by decide) (t := (.array .boolean)) (t' := .int) (by decide) (by decide))))
  exact ⟨rfl, N34, K34, f37, f38, f39, f40, f41, f42, Fw34, f43⟩
theorem own_ef_own_rm21_s3 (m : MethodId) (x0 : Addr) : entryFrame m #[(.ref x0), (.int 1)] 2 = mkF m 0 #[.val (.ref x0), .val (.int 1)] [] := by first | (simp [entryFrame, mkF, argsToLocals, Value.category]; done) | rfl
def own_Q21_s3 (Z : State) (a_1 : Addr) (ob0 : Addr) (h0 : Heap) (n0 : Nat) (v : Option Value) (h : Heap) (L : List Loc) : Prop := v = some (.int 1) ∧ Fr n0 L ∧ h = h0
set_option maxRecDepth 65536 in
set_option maxHeartbeats 40000000 in
theorem own_rm21_s3 (l : Launch) (Z : State) (a0 : Array Value) (hw : ∀ d ∈ tables_1, d.before a0 Z = true) (ws : List Jvm.Cond) (a_1 : Addr) (ob0 : Addr) (h0 : Heap) (n0 : Nat) (Z0 : n0 ≤ h0.size) (pr_A_ob0 : own_AV Z h0 ob0 .boolean (3 : Int32) (own_upd (own_upd (fun _ => (.int 0)) 0 (.int 1)) 1 (.int 1))) (pr_F_a_1_values : Fld Z h0 a_1 own_N0 "values" "[Z" (.ref ob0)) (ho_ : own_lts [a_1, ob0]) :
    MetFree l (⟨own_N0, "isTrue", "(I)Z"⟩ : MethodName) (head1 (Jvm.Cond.code (⟨own_N0, "isTrue", "(I)Z"⟩ : MethodName) prog_7_method_3_code 2 (some .boolean) :: ws) ({ frames := 0, cells := 0, slots := 0, locals := 0 } : Room)) (fun a U => a = #[(.ref a_1), (.int 1)] ∧ Z.Warmed39 U.vm ∧ U.heap = h0) (fun _ _ _ _ _ => True) (fun _ U o U' => ∃ v L, o = .returned v ∧ own_Q21_s3 Z a_1 ob0 h0 n0 v U'.heap L ∧ FrameEnd U o U' L ({ frames := 0, cells := 0, slots := 0, locals := 0 } : Room).cells ({ frames := 0, cells := 0, slots := 0, locals := 0 } : Room).slots) := by
  refine MetFree.of_bodySF (plainFor_of_name own_pn3) hisR ?_
  intro p e s m args below meth c s₁ Bd hml0 hP hK
  obtain ⟨rfl, hZ, hh⟩ := hP
  have hx := Bd.exec
  have hby := Bd.bytes
  have hml : c.maxLocals = 2 := hml0
  have hown : s.vm.findClass own_N0 = some m.cls := findClass_of_methodNamed Bd.named
  have hnm := (name_of_methodNamed Bd.named Bd.method).1
  have X0 : Stand p l e ({ frames := 0, cells := 0, slots := 0, locals := 0 } : Room) s m #[(.ref a_1), (.int 1)] below meth c s₁ [] 0 0 := Stand.of_body Bd
  have e0 : s₁.heap = h0 := by rw [← hh, Bd.state]; rfl
  have N0 := Fr.nil n0
  have z0 : n0 ≤ h0.size := Z0
  have z1 := own_lt pr_A_ob0.lt
  have z2 := own_lt pr_F_a_1_values.lt
  have ho3 := ho_
  simp only [own_lts, and_true] at ho3
  show own_Go p.tables e below (fun t o => t.status = .running ∧ Ended t below o ∧ ∃ v L, o = .returned v ∧ own_Q21_s3 Z a_1 ob0 h0 n0 v t.heap L ∧ FrameEnd s o t L ({ frames := 0, cells := 0, slots := 0, locals := 0 } : Room).cells ({ frames := 0, cells := 0, slots := 0, locals := 0 } : Room).slots) s₁ (entryFrame m #[(.ref a_1), (.int 1)] 2)
  rw [own_ef_own_rm21_s3 m a_1]
  show own_Go _ _ _ _ s₁ (mkF m 0 #[.val (.ref a_1), .val (.int 1)] [])
  refine own_go (fun _ k => XS.aloadN X0.here hx rfl (hb hby own_d21_0) rfl rfl k) ?_
  obtain ⟨T4, X4, e4, st4⟩ := getF X0 hx hZ hown (host := "") (Or.inl (own_w118 hw)) Via.refl e0 pr_F_a_1_values (g := (mkF m 1 #[.val (.ref a_1), .val (.int 1)] [(.ref a_1)])) rfl rfl (hb hby own_d21_1)
  refine own_go (fun _ k => st4 _ k) ?_
  show own_Go _ _ _ _ T4 (mkF m 4 #[.val (.ref a_1), .val (.int 1)] [(.ref ob0)])
  refine own_go (fun _ k => XS.iloadN X4.here hx rfl (hb hby own_d21_4) rfl k) ?_
  obtain ⟨q5, c5, R5, s5, t5⟩ := id pr_A_ob0
  have hin5 : ¬ ((1 : Int32) < 0 ∨ c5.slots.size ≤ ((1 : Int32)).toNatClampNeg) := inb_of s5 ⟨by decide, by decide⟩
  have u5 : c5.slots[((1 : Int32)).toNatClampNeg]? = some (.int 1) := own_at (k := 1) t5 s5 hin5 (by decide) (rfl)
  refine own_go (fun _ k => X4.baloadBooleans hx (j := (1 : Int32)) (v := (.int 1)) (by rw [e4]; exact R5.1) (State.isArrayOf_alike hZ.alike R5.2.1) R5.2.2 hin5 u5 (g := (mkF m 5 #[.val (.ref a_1), .val (.int 1)] [(.int 1), (.ref ob0)])) rfl rfl (hb hby own_d21_5) _ k) ?_
  show own_Go _ _ _ _ T4 (mkF m 6 #[.val (.ref a_1), .val (.int 1)] [(.int 1)])
  obtain ⟨fs, hr, hrun, hended, hW, hsame⟩ := X4.leave (v := some (.int 1)) (fun h => by rw [Bd.returns] at h; cases h)
  refine ⟨_, _, retOut X4 hx Bd.returns rfl (Or.inl ⟨rfl, Or.inr (Or.inl rfl), _, rfl⟩) (hb hby own_d21_6) hr, hrun, hended, _, _, rfl, ?_, ⟨_, rfl⟩, hW, hsame.mono (by decide) (by decide)⟩
  show own_Q21_s3 Z a_1 ob0 h0 n0 _ T4.heap _
  rw [e4]
  exact ⟨rfl, N0, rfl⟩
theorem own_d9_216 : decode prog_6_method_13_code 216 = .ok (.aload_n 0, 1) := by decide +kernel
theorem own_d9_217 : decode prog_6_method_13_code 217 = .ok (.getfield 19, 3) := by decide +kernel
theorem own_d9_220 : decode prog_6_method_13_code 220 = .ok (.iload 7, 2) := by decide +kernel
theorem own_d9_222 : decode prog_6_method_13_code 222 = .ok (.iaload, 1) := by decide +kernel
theorem own_d9_223 : decode prog_6_method_13_code 223 = .ok (.istore 8, 2) := by decide +kernel
theorem own_d9_225 : decode prog_6_method_13_code 225 = .ok (.aload 4, 2) := by decide +kernel
theorem own_d9_227 : decode prog_6_method_13_code 227 = .ok (.iload 8, 2) := by decide +kernel
theorem own_d9_229 : decode prog_6_method_13_code 229 = .ok (.dup2, 1) := by decide +kernel
theorem own_d9_230 : decode prog_6_method_13_code 230 = .ok (.iaload, 1) := by decide +kernel
theorem own_d9_231 : decode prog_6_method_13_code 231 = .ok (.iconst 1, 1) := by decide +kernel
theorem own_d9_232 : decode prog_6_method_13_code 232 = .ok (.isub, 1) := by decide +kernel
theorem own_d9_233 : decode prog_6_method_13_code 233 = .ok (.iastore, 1) := by decide +kernel
theorem own_d9_234 : decode prog_6_method_13_code 234 = .ok (.aload 4, 2) := by decide +kernel
theorem own_d9_236 : decode prog_6_method_13_code 236 = .ok (.iload 8, 2) := by decide +kernel
theorem own_d9_238 : decode prog_6_method_13_code 238 = .ok (.iaload, 1) := by decide +kernel
theorem own_d9_239 : decode prog_6_method_13_code 239 = .ok (.ifCond .ne 16, 3) := by decide +kernel
theorem own_d9_242 : decode prog_6_method_13_code 242 = .ok (.aload_n 3, 1) := by decide +kernel
theorem own_d9_243 : decode prog_6_method_13_code 243 = .ok (.aload_n 0, 1) := by decide +kernel
theorem own_d9_244 : decode prog_6_method_13_code 244 = .ok (.getfield 9, 3) := by decide +kernel
theorem own_d9_247 : decode prog_6_method_13_code 247 = .ok (.iload 8, 2) := by decide +kernel
theorem own_d9_249 : decode prog_6_method_13_code 249 = .ok (.iaload, 1) := by decide +kernel
theorem own_d9_250 : decode prog_6_method_13_code 250 = .ok (.iload 8, 2) := by decide +kernel
theorem own_d9_252 : decode prog_6_method_13_code 252 = .ok (.invokevirtual 166, 3) := by decide +kernel
theorem own_d9_255 : decode prog_6_method_13_code 255 = .ok (.iinc 7 1, 3) := by decide +kernel
theorem own_d9_258 : decode prog_6_method_13_code 258 = .ok (.goto (-56), 3) := by decide +kernel
theorem own_ef_own_rm9_s2 (m : MethodId) (x0 : Addr) (x1 : Addr) : entryFrame m #[(.ref x0), (.ref x1), (.int 1)] 9 = mkF m 0 #[.val (.ref x0), .val (.ref x1), .val (.int 1), .unset, .unset, .unset, .unset, .unset, .unset] [] := by first | (simp [entryFrame, mkF, argsToLocals, Value.category]; done) | rfl
def own_Q9_s2 (Z : State) (a_1 : Addr) (a_2 : Addr) (ob1 : Addr) (ob0 : Addr) (ob2 : Addr) (ob3 : Addr) (h0 : Heap) (n0 : Nat) (v : Option Value) (h : Heap) (L : List Loc) : Prop := ∃ (x_0 : Addr) (x_1 : Addr) (x_2 : Addr) (x_3 : Addr), v = some (.ref x_0) ∧ Fr n0 L ∧ Keep h0 h [] ∧ Exa Z h x_0 own_N0 ∧ Fld Z h x_0 own_N0 "order" "[I" (.ref x_1) ∧ Fld Z h x_0 own_N0 "reasons" "[I" (.ref x_2) ∧ Fld Z h x_0 own_N0 "size" "I" (.int 2) ∧ Fld Z h x_0 own_N0 "values" "[Z" (.ref x_3) ∧ own_AV Z h x_1 .int 3 (own_upd (own_upd (fun _ => (.int 0)) 0 (.int 0)) 1 (.int 1)) ∧ own_AV Z h x_2 .int 3 (own_upd (own_upd (fun _ => (.int 0)) 0 (.int (-1))) 1 (.int 0)) ∧ own_AV Z h x_3 .boolean (3 : Int32) (own_upd (own_upd (fun _ => (.int 0)) 0 (.int 1)) 1 (.int 1)) ∧ (h0.size ≤ x_0) ∧ (h0.size ≤ x_1) ∧ (h0.size ≤ x_2) ∧ (h0.size ≤ x_3) ∧ (own_lts [x_0, x_3, x_2, x_1])
set_option maxRecDepth 65536 in
set_option maxHeartbeats 40000000 in
theorem own_rm9_s2 (l : Launch) (Z : State) (a0 : Array Value) (hw : ∀ d ∈ tables_1, d.before a0 Z = true) (ws : List Jvm.Cond) (a_1 : Addr) (a_2 : Addr) (ob1 : Addr) (ob0 : Addr) (ob2 : Addr) (ob3 : Addr) (h0 : Heap) (n0 : Nat) (Z0 : n0 ≤ h0.size) (pr_A_a_2 : own_AV Z h0 a_2 .int 1 (own_upd (fun _ => (.int 0)) 0 (.int 0))) (pr_A_ob0 : own_AV Z h0 ob0 .int 64 (own_upd (fun _ => (.int 0)) 0 (.int 1))) (pr_A_ob1 : own_AV Z h0 ob1 .int 65 (own_upd (fun _ => (.int 0)) 1 (.int 1))) (pr_A_ob2 : own_AV Z h0 ob2 .int 4 (own_upd (own_upd (own_upd (own_upd (fun _ => (.int 0)) 1 (.int 1)) 1 (.int 1)) 2 (.int 1)) 3 (.int 1))) (pr_A_ob3 : own_AV Z h0 ob3 .int 1 (own_upd (fun _ => (.int 0)) 0 (.int 0))) (pr_E_a_1 : Exa Z h0 a_1 own_N1) (pr_F_a_1_bodyStarts : Fld Z h0 a_1 own_N1 "bodyStarts" "[I" (.ref ob1)) (pr_F_a_1_clauseCount : Fld Z h0 a_1 own_N1 "clauseCount" "I" (.int 1)) (pr_F_a_1_heads : Fld Z h0 a_1 own_N1 "heads" "[I" (.ref ob0)) (pr_F_a_1_occurrenceStarts : Fld Z h0 a_1 own_N1 "occurrenceStarts" "[I" (.ref ob2)) (pr_F_a_1_occurrences : Fld Z h0 a_1 own_N1 "occurrences" "[I" (.ref ob3)) (pr_F_a_1_variableCount : Fld Z h0 a_1 own_N1 "variableCount" "I" (.int 3)) (ho_ : own_lts [a_1, ob0, ob1, ob2, ob3, a_2]) :
    MetFree l (⟨own_N1, "propagate", "([II)Lcom/example/kalchas/kalchas/propositional/HornClauses$Trail;"⟩ : MethodName) (head1 (Jvm.Cond.code (⟨own_N1, "propagate", "([II)Lcom/example/kalchas/kalchas/propositional/HornClauses$Trail;"⟩ : MethodName) prog_6_method_13_code 9 (some (.object own_N0)) :: ws) ({ frames := 2, cells := 9, slots := 86, locals := 27 } : Room)) (fun a U => a = #[(.ref a_1), (.ref a_2), (.int 1)] ∧ Z.Warmed39 U.vm ∧ U.heap = h0) (fun _ _ _ _ _ => True) (fun _ U o U' => ∃ v L, o = .returned v ∧ own_Q9_s2 Z a_1 a_2 ob1 ob0 ob2 ob3 h0 n0 v U'.heap L ∧ ReturnedEndW U o U' L ({ frames := 2, cells := 9, slots := 86, locals := 27 } : Room).cells ({ frames := 2, cells := 9, slots := 86, locals := 27 } : Room).slots) := by
  refine MetFree.of_bodySF (plainFor_of_name own_pn0) hisR ?_
  intro p e s m args below meth c s₁ Bd hml0 hP hK
  obtain ⟨rfl, hZ, hh⟩ := hP
  have hx := Bd.exec
  have hby := Bd.bytes
  have hml : c.maxLocals = 9 := hml0
  have hown : s.vm.findClass own_N1 = some m.cls := findClass_of_methodNamed Bd.named
  have hnm := (name_of_methodNamed Bd.named Bd.method).1
  have X0 : Stand p l e ({ frames := 2, cells := 9, slots := 86, locals := 27 } : Room) s m #[(.ref a_1), (.ref a_2), (.int 1)] below meth c s₁ [] 0 0 := Stand.of_body Bd
  have e0 : s₁.heap = h0 := by rw [← hh, Bd.state]; rfl
  have N0 := Fr.nil n0
  have X0 : Stand p l e ({ frames := 2, cells := 9, slots := 86, locals := 27 } : Room) (s.setVm s.vm) m #[(.ref a_1), (.ref a_2), (.int 1)] below meth c s₁ [] 0 0 := X0
  have hZ : Z.Warmed39 (s.setVm s.vm).vm := hZ
  have hown : (s.setVm s.vm).vm.findClass own_N1 = some m.cls := hown
  have hS0 : s.Since s.vm 0 := (State.WarmedH.refl s).since 0
  have z0 : n0 ≤ h0.size := Z0
  have z1 := own_lt pr_A_a_2.lt
  have z2 := own_lt pr_A_ob0.lt
  have z3 := own_lt pr_A_ob1.lt
  have z4 := own_lt pr_A_ob2.lt
  have z5 := own_lt pr_A_ob3.lt
  have z6 := own_lt pr_E_a_1.lt
  have z7 := own_lt pr_F_a_1_bodyStarts.lt
  have z8 := own_lt pr_F_a_1_clauseCount.lt
  have z9 := own_lt pr_F_a_1_heads.lt
  have z10 := own_lt pr_F_a_1_occurrenceStarts.lt
  have z11 := own_lt pr_F_a_1_occurrences.lt
  have z12 := own_lt pr_F_a_1_variableCount.lt
  have ho13 := ho_
  simp only [own_lts, and_true] at ho13
  have K0 : Keep h0 h0 [] := Keep.refl h0 _
  show own_Go p.tables e below (fun t o => t.status = .running ∧ Ended t below o ∧ ∃ v L, o = .returned v ∧ own_Q9_s2 Z a_1 a_2 ob1 ob0 ob2 ob3 h0 n0 v t.heap L ∧ ReturnedEndW s o t L ({ frames := 2, cells := 9, slots := 86, locals := 27 } : Room).cells ({ frames := 2, cells := 9, slots := 86, locals := 27 } : Room).slots) s₁ (entryFrame m #[(.ref a_1), (.ref a_2), (.int 1)] 9)
  rw [own_ef_own_rm9_s2 m a_1 a_2]
  show own_Go _ _ _ _ s₁ (mkF m 0 #[.val (.ref a_1), .val (.ref a_2), .val (.int 1), .unset, .unset, .unset, .unset, .unset, .unset] [])
  refine own_go (fun _ k => XS.aloadN X0.here hx rfl (hb hby own_d9_0) rfl rfl (XS.iloadN X0.here hx rfl (hb hby own_d9_1) rfl k)) ?_
  obtain ⟨cq14, kq14, q14a, q14b, q14c⟩ := isOf hZ e0 pr_E_a_1
  obtain ⟨_, _, ⟨T14, L14, k14, n14⟩, -, X14, hS14, gr14, ⟨Lc14, hQ14, l14, y14, z14⟩, st14⟩ := X0.virtualBackS hx (y := (⟨own_N1, "checkVariable", "(I)V"⟩ : MethodName)) (z := (⟨own_N1, "checkVariable", "(I)V"⟩ : MethodName)) hown (mvT hZ (hw _ (List.mem_of_getElem? (i := 30) rfl))) (mvT hZ (hw _ (List.mem_of_getElem? (i := 31) rfl))) (notFace_of_selects (args := #[]) (mvT hZ (own_w33 hw))) (mvT hZ (own_w33 hw)) (mvT hZ (hw _ (List.mem_of_getElem? (i := 32) rfl))) (by decide) (backOfS (W := 0) (own_rm5 l Z a0 hw [] a_1 (1 : Int32) (3 : Int32) h0 n0 (by omega) (show ¬ ((1 : Int32) < 0) by first | assumption | omega | decide) (show (1 : Int32) < (3 : Int32) by first | assumption | omega | decide) pr_F_a_1_variableCount) hZ (hw _ (List.mem_of_getElem? (i := 34) rfl)) (own_w2 hw) (by decide) (by decide)) q14a q14c (g := (mkF m 2 #[.val (.ref a_1), .val (.ref a_2), .val (.int 1), .unset, .unset, .unset, .unset, .unset, .unset] [(.int 1), (.ref a_1)])) rfl (by rw [hml]; rfl) (Steps.refl _) (argsL := [(.int 1)]) (rest := []) (lenOf own_pd3 rfl) rfl (by show 2 * 0 + _ ≤ _; exact Nat.le_of_eq rfl) (hb hby own_d9_2) (fun _ _ => ⟨rfl, e0, (by decide : 0 + 2 ≤ _), (by decide : 0 + 36 ≤ _)⟩)
  dsimp only [Pt.U, Pt.locs, Pt.cells, Pt.slots] at X14 l14 y14 z14 st14 hQ14 hS14 gr14
  have y14 : k14 = 2 := y14
  have z14 : n14 = 36 := z14
  have Wn14 := hS14.1
  obtain ⟨X14, hS14, hZ, hown⟩ := rebS hS0 (n1 := s₁.heap.size) (by rw [e0]; omega) X14 hS14 gr14 hZ hown
  obtain ⟨rfl, N14q, K14q⟩ := hQ14
  have N14 : Fr n0 L14 := by rw [l14]; exact Fr.app N0 N14q
  have z15 := K14q.1
  have K14 : Keep h0 T14.heap [] := K0.trans K14q all0
  refine own_go (fun _ k => st14.trans k) ?_
  show own_Go _ _ _ _ T14 (mkF m 5 #[.val (.ref a_1), .val (.ref a_2), .val (.int 1), .unset, .unset, .unset, .unset, .unset, .unset] [])
  refine own_go (fun _ k => XS.aloadN X14.here hx rfl (hb hby own_d9_5) rfl rfl (XS.astoreN X14.here hx rfl (hb hby own_d9_6) rfl rfl (l' := #[.val (.ref a_1), .val (.ref a_2), .val (.int 1), .val (.ref a_2), .unset, .unset, .unset, .unset, .unset]) rfl (XS.aloadN X14.here hx rfl (hb hby own_d9_7) rfl rfl k))) ?_
  have f16 := (pr_A_a_2.keep K14q nin0)
  obtain ⟨q17, c17, R17, s17, t17⟩ := id f16
  refine own_go (fun _ k => X14.arraylength hx R17.1 (State.isArrayOf_alike hZ.alike R17.2.1) (g := (mkF m 8 #[.val (.ref a_1), .val (.ref a_2), .val (.int 1), .val (.ref a_2), .unset, .unset, .unset, .unset, .unset] [(.ref a_2)])) rfl rfl (hb hby own_d9_8) _ k) ?_
  rw [len_of s17 q17]
  show own_Go _ _ _ _ T14 (mkF m 9 #[.val (.ref a_1), .val (.ref a_2), .val (.int 1), .val (.ref a_2), .unset, .unset, .unset, .unset, .unset] [(.int 1)])
  refine own_go (fun _ k => XS.istore X14.here hx rfl (hb hby own_d9_9) rfl (l' := #[.val (.ref a_1), .val (.ref a_2), .val (.int 1), .val (.ref a_2), .val (.int 1), .unset, .unset, .unset, .unset]) rfl (XS.iconst X14.here hx rfl (hb hby own_d9_11) (XS.istore X14.here hx rfl (hb hby own_d9_12) rfl (l' := #[.val (.ref a_1), .val (.ref a_2), .val (.int 1), .val (.ref a_2), .val (.int 1), .val (.int 0), .unset, .unset, .unset]) rfl (XS.iload X14.here hx rfl (hb hby own_d9_14) rfl k)))) ?_
  show own_Go _ _ _ _ T14 (mkF m 16 #[.val (.ref a_1), .val (.ref a_2), .val (.int 1), .val (.ref a_2), .val (.int 1), .val (.int 0), .unset, .unset, .unset] [(.int 0)])
  refine own_go (fun _ k => XS.iload X14.here hx rfl (hb hby own_d9_16) rfl k) ?_
  have hc18 : (0 : Int32) < (1 : Int32) := by decide
  refine own_go (fun _ k => XS.icmpNo X14.here hx rfl (hb hby own_d9_18) rfl (Jvm.Free.XT.ii_ge_f hc18) (XS.aloadN X14.here hx rfl (hb hby own_d9_21) rfl rfl (XS.iload X14.here hx rfl (hb hby own_d9_22) rfl k))) ?_
  obtain ⟨q19, c19, R19, s19, t19⟩ := id f16
  have hin19 : ¬ ((0 : Int32) < 0 ∨ c19.slots.size ≤ ((0 : Int32)).toNatClampNeg) := inb_of s19 ⟨by decide, by decide⟩
  have u19 : c19.slots[((0 : Int32)).toNatClampNeg]? = some (.int 0) := own_at (k := 0) t19 s19 hin19 (by decide) (rfl)
  refine own_go (fun _ k => X14.iaload hx (j := (0 : Int32)) (v := (.int 0)) R19.1 (State.isArrayOf_alike hZ.alike R19.2.1) R19.2.2 hin19 u19 (g := (mkF m 24 #[.val (.ref a_1), .val (.ref a_2), .val (.int 1), .val (.ref a_2), .val (.int 1), .val (.int 0), .unset, .unset, .unset] [(.int 0), (.ref a_2)])) rfl rfl (hb hby own_d9_24) _ k) ?_
  show own_Go _ _ _ _ T14 (mkF m 25 #[.val (.ref a_1), .val (.ref a_2), .val (.int 1), .val (.ref a_2), .val (.int 1), .val (.int 0), .unset, .unset, .unset] [(.int 0)])
  refine own_go (fun _ k => XS.istore X14.here hx rfl (hb hby own_d9_25) rfl (l' := #[.val (.ref a_1), .val (.ref a_2), .val (.int 1), .val (.ref a_2), .val (.int 1), .val (.int 0), .val (.int 0), .unset, .unset]) rfl (XS.aloadN X14.here hx rfl (hb hby own_d9_27) rfl rfl (XS.iload X14.here hx rfl (hb hby own_d9_28) rfl k))) ?_
  have f20 := (pr_F_a_1_variableCount.keep K14q nin0)
  have f22 := (pr_E_a_1.keep K14q)
  obtain ⟨cq21, kq21, q21a, q21b, q21c⟩ := isOf hZ rfl f22
  obtain ⟨_, _, ⟨T21, L21, k21, n21⟩, -, X21, hS21, gr21, ⟨Lc21, hQ21, l21, y21, z21⟩, st21⟩ := X14.virtualBackS hx (y := (⟨own_N1, "checkVariable", "(I)V"⟩ : MethodName)) (z := (⟨own_N1, "checkVariable", "(I)V"⟩ : MethodName)) hown (mvT hZ (hw _ (List.mem_of_getElem? (i := 30) rfl))) (mvT hZ (hw _ (List.mem_of_getElem? (i := 31) rfl))) (notFace_of_selects (args := #[]) (mvT hZ (own_w33 hw))) (mvT hZ (own_w33 hw)) (mvT hZ (hw _ (List.mem_of_getElem? (i := 32) rfl))) (by decide) (backOfS (W := 0) (own_rm5 l Z a0 hw [] a_1 (0 : Int32) (3 : Int32) T14.heap n0 (by omega) (show ¬ ((0 : Int32) < 0) by first | assumption | omega | decide) (show (0 : Int32) < (3 : Int32) by first | assumption | omega | decide) f20) hZ (hw _ (List.mem_of_getElem? (i := 34) rfl)) (own_w2 hw) (by decide) (by decide)) q21a q21c (g := (mkF m 30 #[.val (.ref a_1), .val (.ref a_2), .val (.int 1), .val (.ref a_2), .val (.int 1), .val (.int 0), .val (.int 0), .unset, .unset] [(.int 0), (.ref a_1)])) rfl (by rw [hml]; rfl) (Steps.refl _) (argsL := [(.int 0)]) (rest := []) (lenOf own_pd3 rfl) rfl (by show 2 * 0 + _ ≤ _; exact Nat.le_of_eq rfl) (hb hby own_d9_30) (fun _ _ => ⟨rfl, rfl, (by show k14 + _ ≤ _; rw [y14]; decide), (by show n14 + _ ≤ _; rw [z14]; decide)⟩)
  dsimp only [Pt.U, Pt.locs, Pt.cells, Pt.slots] at X21 l21 y21 z21 st21 hQ21 hS21 gr21
  have y21 : k21 = 4 := own_addeq y21 (congrArg (fun q => q) y14) rfl
  have z21 : n21 = 72 := own_addeq z21 (congrArg (fun q => q) z14) rfl
  have Wn21 := hS21.1
  obtain ⟨X21, hS21, hZ, hown⟩ := rebS hS14 (n1 := T14.heap.size) (by omega) X21 hS21 gr21 hZ hown
  obtain ⟨rfl, N21q, K21q⟩ := hQ21
  have N21 : Fr n0 L21 := by rw [l21]; exact Fr.app N14 N21q
  have z23 := K21q.1
  have K21 : Keep h0 T21.heap [] := K14.trans K21q all0
  refine own_go (fun _ k => st21.trans k) ?_
  show own_Go _ _ _ _ T21 (mkF m 33 #[.val (.ref a_1), .val (.ref a_2), .val (.int 1), .val (.ref a_2), .val (.int 1), .val (.int 0), .val (.int 0), .unset, .unset] [])
  refine own_go (fun _ k => XS.iinc X21.here hx rfl (hb hby own_d9_33) rfl (l' := #[.val (.ref a_1), .val (.ref a_2), .val (.int 1), .val (.ref a_2), .val (.int 1), .val (.int 1), .val (.int 0), .unset, .unset]) rfl (XS.goto X21.here hx rfl (pc0 := 36) (pc' := 14) rfl (hb hby own_d9_36) (by decide) (by decide) (XS.iload X21.here hx rfl (hb hby own_d9_14) rfl (XS.iload X21.here hx rfl (hb hby own_d9_16) rfl k)))) ?_
  show own_Go _ _ _ _ T21 (mkF m 18 #[.val (.ref a_1), .val (.ref a_2), .val (.int 1), .val (.ref a_2), .val (.int 1), .val (.int 1), .val (.int 0), .unset, .unset] [(.int 1), (.int 1)])
  have hc24 : ¬ ((1 : Int32) < (1 : Int32)) := by decide
  refine own_go (fun _ k => XS.icmpYes X21.here hx rfl (pc0 := 18) (pc' := 39) rfl (hb hby own_d9_18) rfl (Jvm.Free.XT.ii_ge_t hc24) (by decide) (by decide) (XS.aloadN X21.here hx rfl (hb hby own_d9_39) rfl rfl k)) ?_
  have f25 := ((pr_F_a_1_occurrences.keep K14q nin0).keep K21q nin0)
  have f27 := (f22.keep K21q)
  obtain ⟨cq26, q26, q26'⟩ := (id f27).cell
  obtain ⟨_, _, ⟨T26, L26, k26, n26⟩, -, X26, ⟨Lc26, hQ26, l26, y26, z26⟩, st26⟩ := X21.privateBack hx (y := (⟨own_N1, "index", "()V"⟩ : MethodName)) hown (mvT hZ (hw _ (List.mem_of_getElem? (i := 66) rfl))) (mvT hZ (hw _ (List.mem_of_getElem? (i := 67) rfl))) (own_selfsel hZ (own_w1 hw) (hw _ (List.mem_of_getElem? (i := 67) rfl)) (hw _ (List.mem_of_getElem? (i := 68) rfl)) (by decide)) (Cond.privateMethod_at (mvP hZ (hw _ (List.mem_of_getElem? (i := 68) rfl)) (args := #[]))) (mvT hZ (hw _ (List.mem_of_getElem? (i := 69) rfl))) (by decide) (backOf (W := 0) (own_rm10_s2 l Z a0 hw [] a_1 ob3 T21.heap n0 (by omega) f25 (by simp only [own_lts, and_true]; omega)) hZ (hw _ (List.mem_of_getElem? (i := 69) rfl)) (own_w2 hw) (by decide) (by decide)) (g := (mkF m 40 #[.val (.ref a_1), .val (.ref a_2), .val (.int 1), .val (.ref a_2), .val (.int 1), .val (.int 1), .val (.int 0), .unset, .unset] [(.ref a_1)])) rfl (by rw [hml]; rfl) (Steps.refl _) (a := a_1) q26 q26' (argsL := []) (rest := []) (lenOf own_pd1 rfl) rfl (by show 2 * 0 + _ ≤ _; exact Nat.le_of_eq rfl) (hb hby own_d9_40) (fun _ _ => ⟨rfl, rfl, (by show k21 + _ ≤ _; rw [y21]; decide), (by show n21 + _ ≤ _; rw [z21]; decide)⟩)
  dsimp only [Pt.U, Pt.locs, Pt.cells, Pt.slots] at X26 l26 y26 z26 st26 hQ26
  have y26 : k26 = 4 := own_addeq y26 (congrArg (fun q => q) y21) rfl
  have z26 : n26 = 72 := own_addeq z26 (congrArg (fun q => q) z21) rfl
  obtain ⟨rfl, N26q, e26⟩ := hQ26
  have N26 : Fr n0 L26 := by rw [l26]; exact Fr.app N21 N26q
  refine own_go (fun _ k => st26.trans k) ?_
  show own_Go _ _ _ _ T26 (mkF m 43 #[.val (.ref a_1), .val (.ref a_2), .val (.int 1), .val (.ref a_2), .val (.int 1), .val (.int 1), .val (.int 0), .unset, .unset] [])
  obtain ⟨T28, h28, X28, e28, E28, A28, D28, Y28, st28⟩ := newO X26 hx hZ hown (hw _ (List.mem_of_getElem? (i := 110) rfl)) (own_w111 hw) (own_w112 hw) e26 (g := (mkF m 43 #[.val (.ref a_1), .val (.ref a_2), .val (.int 1), .val (.ref a_2), .val (.int 1), .val (.int 1), .val (.int 0), .unset, .unset] [])) rfl (hb hby own_d9_43) (by rw [y26]; decide) (by rw [z26]; decide)
  obtain ⟨b28, g28⟩ : ∃ z, z = T21.heap.size := ⟨_, rfl⟩
  rw [← g28] at A28 D28 Y28 st28
  have z29 := E28.1
  have lt_b28 := own_lt A28.lt
  have K28 : Keep h0 h28 [] := K21.ext E28
  have F_values_b28 : Fld Z h28 b28 own_N0 "values" "[Z" .null := D28 (Or.inr (own_w119 hw)) (ty := (.array .boolean)) (by decide)
  have F_reasons_b28 : Fld Z h28 b28 own_N0 "reasons" "[I" .null := D28 (Or.inr (own_w121 hw)) (ty := (.array .int)) (by decide)
  have F_order_b28 : Fld Z h28 b28 own_N0 "order" "[I" .null := D28 (Or.inr (own_w123 hw)) (ty := (.array .int)) (by decide)
  have F_size_b28 : Fld Z h28 b28 own_N0 "size" "I" (.int 0) := D28 (Or.inl (own_w130 hw)) (ty := .int) (by decide)
  refine own_go (fun _ k => st28 _ k) ?_
  show own_Go _ _ _ _ T28 (mkF m 46 #[.val (.ref a_1), .val (.ref a_2), .val (.int 1), .val (.ref a_2), .val (.int 1), .val (.int 1), .val (.int 0), .unset, .unset] [(.ref b28)])
  refine own_go (fun _ k => XS.dup X28.here hx rfl (hb hby own_d9_46) rfl rfl (XS.aloadN X28.here hx rfl (hb hby own_d9_47) rfl rfl k)) ?_
  have f30 := ((f20.keep K21q nin0).ext E28)
  obtain ⟨T31, X31, e31, st31⟩ := getF X28 hx hZ hown (host := "") (Or.inl (own_w23 hw)) Via.refl e28 f30 (g := (mkF m 48 #[.val (.ref a_1), .val (.ref a_2), .val (.int 1), .val (.ref a_2), .val (.int 1), .val (.int 1), .val (.int 0), .unset, .unset] [(.ref a_1), (.ref b28), (.ref b28)])) rfl rfl (hb hby own_d9_48)
  refine own_go (fun _ k => st31 _ k) ?_
  show own_Go _ _ _ _ T31 (mkF m 51 #[.val (.ref a_1), .val (.ref a_2), .val (.int 1), .val (.ref a_2), .val (.int 1), .val (.int 1), .val (.int 0), .unset, .unset] [(.int 3), (.ref b28), (.ref b28)])
  obtain ⟨_, _, ⟨T32, L32, k32, n32⟩, -, X32, ⟨Lc32, hQ32, l32, y32, z32⟩, st32⟩ := X31.specialBack hx (y := (⟨own_N0, "<init>", "(I)V"⟩ : MethodName)) rfl hown (mvT hZ (hw _ (List.mem_of_getElem? (i := 113) rfl))) (mvT hZ (hw _ (List.mem_of_getElem? (i := 114) rfl))) (mvT hZ (hw _ (List.mem_of_getElem? (i := 115) rfl))) (by decide) (backOf (W := 1) (own_rm19_s1 l Z a0 hw [] b28 .null .null .null (.int 0) h28 n0 (by omega) A28 F_order_b28 F_reasons_b28 F_size_b28 F_values_b28 (by omega)) hZ (hw _ (List.mem_of_getElem? (i := 115) rfl)) (own_w112 hw) (by decide) (by decide)) (g := (mkF m 51 #[.val (.ref a_1), .val (.ref a_2), .val (.int 1), .val (.ref a_2), .val (.int 1), .val (.int 1), .val (.int 0), .unset, .unset] [(.int 3), (.ref b28), (.ref b28)])) rfl (by rw [hml]; rfl) (Steps.refl _) (a := b28) (argsL := [(.int 3)]) (rest := [(.ref b28)]) (lenOf own_pd3 rfl) rfl (by show 2 * 0 + _ ≤ _; exact Nat.le_of_eq rfl) (hb hby own_d9_51) (fun _ _ => ⟨rfl, e31, (by show k26 + 1 + _ ≤ _; rw [y26]; decide), (by show n26 + 4 + _ ≤ _; rw [z26]; decide)⟩)
  dsimp only [Pt.U, Pt.locs, Pt.cells, Pt.slots] at X32 l32 y32 z32 st32 hQ32
  have y32 : k32 = 8 := own_addeq y32 (congrArg (fun q => q + 1) y26) rfl
  have z32 : n32 = 85 := own_addeq z32 (congrArg (fun q => q + 4) z26) rfl
  obtain ⟨x_33, x_34, x_35, rfl, N32q, K32q, f36, f37, f38, f39, f40, f41, f42, f43, f44, f45, f46, f47⟩ := hQ32
  have N32 : Fr n0 L32 := by rw [l32]; exact Fr.app N26 N32q
  have z48 := K32q.1
  have K32 : Keep h0 T32.heap [] := K28.trans K32q (allS (Or.inr (by omega)) all0)
  have z49 := own_lt f36.lt
  have z50 := own_lt f37.lt
  have z51 := own_lt f38.lt
  have z52 := own_lt f39.lt
  have z53 := own_lt f40.lt
  have z54 := own_lt f41.lt
  have z55 := own_lt f42.lt
  have z56 := own_lt f43.lt
  simp only [own_lts, and_true] at f47
  refine own_go (fun _ k => st32.trans k) ?_
  show own_Go _ _ _ _ T32 (mkF m 54 #[.val (.ref a_1), .val (.ref a_2), .val (.int 1), .val (.ref a_2), .val (.int 1), .val (.int 1), .val (.int 0), .unset, .unset] [(.ref b28)])
  refine own_go (fun _ k => XS.astoreN X32.here hx rfl (hb hby own_d9_54) rfl rfl (l' := #[.val (.ref a_1), .val (.ref a_2), .val (.int 1), .val (.ref b28), .val (.int 1), .val (.int 1), .val (.int 0), .unset, .unset]) rfl (XS.aloadN X32.here hx rfl (hb hby own_d9_55) rfl rfl k)) ?_
  have f57 := ((((pr_F_a_1_clauseCount.keep K14q nin0).keep K21q nin0).ext E28).keep K32q (ninS (own_ne (by omega)) nin0))
  obtain ⟨T58, X58, e58, st58⟩ := getF X32 hx hZ hown (host := "") (Or.inl (own_w46 hw)) Via.refl rfl f57 (g := (mkF m 56 #[.val (.ref a_1), .val (.ref a_2), .val (.int 1), .val (.ref b28), .val (.int 1), .val (.int 1), .val (.int 0), .unset, .unset] [(.ref a_1)])) rfl rfl (hb hby own_d9_56)
  refine own_go (fun _ k => st58 _ k) ?_
  show own_Go _ _ _ _ T58 (mkF m 59 #[.val (.ref a_1), .val (.ref a_2), .val (.int 1), .val (.ref b28), .val (.int 1), .val (.int 1), .val (.int 0), .unset, .unset] [(.int 1)])
  obtain ⟨T59, h59, k59, X59, e59, E59, A59, st59⟩ := newP X58 hx hZ (hw _ (List.mem_of_getElem? (i := 9) rfl)) e58 (g := (mkF m 59 #[.val (.ref a_1), .val (.ref a_2), .val (.int 1), .val (.ref b28), .val (.int 1), .val (.int 1), .val (.int 0), .unset, .unset] [(.int 1)])) rfl (hb hby own_d9_59) rfl (by decide) (cap := 1) (by decide) (by decide) (by rw [y32]; decide) (by rw [z32]; decide)
  obtain ⟨b59, g59⟩ : ∃ z, z = T32.heap.size := ⟨_, rfl⟩
  rw [← g59] at A59 st59
  have z60 := E59.1
  have lt_b59 := own_lt A59.lt
  have K59 : Keep h0 h59 [] := K32.ext E59
  have V_b59 : own_AV Z h59 b59 .int 1 (fun _ => (.int 0)) := own_AV.new A59 (by decide)
  refine own_go (fun _ k => st59 _ k) ?_
  show own_Go _ _ _ _ T59 (mkF m 61 #[.val (.ref a_1), .val (.ref a_2), .val (.int 1), .val (.ref b28), .val (.int 1), .val (.int 1), .val (.int 0), .unset, .unset] [(.ref b59)])
  refine own_go (fun _ k => XS.astore X59.here hx rfl (hb hby own_d9_61) rfl rfl (l' := #[.val (.ref a_1), .val (.ref a_2), .val (.int 1), .val (.ref b28), .val (.ref b59), .val (.int 1), .val (.int 0), .unset, .unset]) rfl (XS.iconst X59.here hx rfl (hb hby own_d9_63) (XS.istore X59.here hx rfl (hb hby own_d9_64) rfl (l' := #[.val (.ref a_1), .val (.ref a_2), .val (.int 1), .val (.ref b28), .val (.ref b59), .val (.int 0), .val (.int 0), .unset, .unset]) rfl (XS.iload X59.here hx rfl (hb hby own_d9_66) rfl k)))) ?_
  show own_Go _ _ _ _ T59 (mkF m 68 #[.val (.ref a_1), .val (.ref a_2), .val (.int 1), .val (.ref b28), .val (.ref b59), .val (.int 0), .val (.int 0), .unset, .unset] [(.int 0)])
  refine own_go (fun _ k => XS.aloadN X59.here hx rfl (hb hby own_d9_68) rfl rfl k) ?_
  have f61 := (f57.ext E59)
  obtain ⟨T62, X62, e62, st62⟩ := getF X59 hx hZ hown (host := "") (Or.inl (own_w46 hw)) Via.refl e59 f61 (g := (mkF m 69 #[.val (.ref a_1), .val (.ref a_2), .val (.int 1), .val (.ref b28), .val (.ref b59), .val (.int 0), .val (.int 0), .unset, .unset] [(.ref a_1), (.int 0)])) rfl rfl (hb hby own_d9_69)
  refine own_go (fun _ k => st62 _ k) ?_
  show own_Go _ _ _ _ T62 (mkF m 72 #[.val (.ref a_1), .val (.ref a_2), .val (.int 1), .val (.ref b28), .val (.ref b59), .val (.int 0), .val (.int 0), .unset, .unset] [(.int 1), (.int 0)])
  have hc63 : (0 : Int32) < (1 : Int32) := by decide
  refine own_go (fun _ k => XS.icmpNo X62.here hx rfl (hb hby own_d9_72) rfl (Jvm.Free.XT.ii_ge_f hc63) (XS.aload X62.here hx rfl (hb hby own_d9_75) rfl rfl (XS.iload X62.here hx rfl (hb hby own_d9_77) rfl (XS.aloadN X62.here hx rfl (hb hby own_d9_79) rfl rfl k)))) ?_
  show own_Go _ _ _ _ T62 (mkF m 80 #[.val (.ref a_1), .val (.ref a_2), .val (.int 1), .val (.ref b28), .val (.ref b59), .val (.int 0), .val (.int 0), .unset, .unset] [(.ref a_1), (.int 0), (.ref b59)])
  have f64 := (((((pr_F_a_1_bodyStarts.keep K14q nin0).keep K21q nin0).ext E28).keep K32q (ninS (own_ne (by omega)) nin0)).ext E59)
  obtain ⟨T65, X65, e65, st65⟩ := getF X62 hx hZ hown (host := "") (Or.inl (own_w12 hw)) Via.refl e62 f64 (g := (mkF m 80 #[.val (.ref a_1), .val (.ref a_2), .val (.int 1), .val (.ref b28), .val (.ref b59), .val (.int 0), .val (.int 0), .unset, .unset] [(.ref a_1), (.int 0), (.ref b59)])) rfl rfl (hb hby own_d9_80)
  refine own_go (fun _ k => st65 _ k) ?_
  show own_Go _ _ _ _ T65 (mkF m 83 #[.val (.ref a_1), .val (.ref a_2), .val (.int 1), .val (.ref b28), .val (.ref b59), .val (.int 0), .val (.int 0), .unset, .unset] [(.ref ob1), (.int 0), (.ref b59)])
  refine own_go (fun _ k => XS.iload X65.here hx rfl (hb hby own_d9_83) rfl (XS.iconst X65.here hx rfl (hb hby own_d9_85) (XS.iadd X65.here hx rfl (hb hby own_d9_86) rfl k))) ?_
  have f66 := (((((pr_A_ob1.keep K14q nin0).keep K21q nin0).ext E28).keep K32q (ninS (own_ne (by omega)) nin0)).ext E59)
  obtain ⟨q67, c67, R67, s67, t67⟩ := id f66
  have hin67 : ¬ ((1 : Int32) < 0 ∨ c67.slots.size ≤ ((1 : Int32)).toNatClampNeg) := inb_of s67 ⟨by decide, by decide⟩
  have u67 : c67.slots[((1 : Int32)).toNatClampNeg]? = some (.int 1) := own_at (k := 1) t67 s67 hin67 (by decide) (rfl)
  refine own_go (fun _ k => X65.iaload hx (j := (1 : Int32)) (v := (.int 1)) (by rw [e65]; exact R67.1) (State.isArrayOf_alike hZ.alike R67.2.1) R67.2.2 hin67 u67 (g := (mkF m 87 #[.val (.ref a_1), .val (.ref a_2), .val (.int 1), .val (.ref b28), .val (.ref b59), .val (.int 0), .val (.int 0), .unset, .unset] [(.int 1), (.ref ob1), (.int 0), (.ref b59)])) rfl rfl (hb hby own_d9_87) _ k) ?_
  show own_Go _ _ _ _ T65 (mkF m 88 #[.val (.ref a_1), .val (.ref a_2), .val (.int 1), .val (.ref b28), .val (.ref b59), .val (.int 0), .val (.int 0), .unset, .unset] [(.int 1), (.int 0), (.ref b59)])
  refine own_go (fun _ k => XS.aloadN X65.here hx rfl (hb hby own_d9_88) rfl rfl k) ?_
  obtain ⟨T68, X68, e68, st68⟩ := getF X65 hx hZ hown (host := "") (Or.inl (own_w12 hw)) Via.refl e65 f64 (g := (mkF m 89 #[.val (.ref a_1), .val (.ref a_2), .val (.int 1), .val (.ref b28), .val (.ref b59), .val (.int 0), .val (.int 0), .unset, .unset] [(.ref a_1), (.int 1), (.int 0), (.ref b59)])) rfl rfl (hb hby own_d9_89)
  refine own_go (fun _ k => st68 _ k) ?_
  show own_Go _ _ _ _ T68 (mkF m 92 #[.val (.ref a_1), .val (.ref a_2), .val (.int 1), .val (.ref b28), .val (.ref b59), .val (.int 0), .val (.int 0), .unset, .unset] [(.ref ob1), (.int 1), (.int 0), (.ref b59)])
  refine own_go (fun _ k => XS.iload X68.here hx rfl (hb hby own_d9_92) rfl k) ?_
  obtain ⟨q69, c69, R69, s69, t69⟩ := id f66
  have hin69 : ¬ ((0 : Int32) < 0 ∨ c69.slots.size ≤ ((0 : Int32)).toNatClampNeg) := inb_of s69 ⟨by decide, by decide⟩
  have u69 : c69.slots[((0 : Int32)).toNatClampNeg]? = some (.int 0) := own_at (k := 0) t69 s69 hin69 (by decide) (rfl)
  refine own_go (fun _ k => X68.iaload hx (j := (0 : Int32)) (v := (.int 0)) (by rw [e68]; exact R69.1) (State.isArrayOf_alike hZ.alike R69.2.1) R69.2.2 hin69 u69 (g := (mkF m 94 #[.val (.ref a_1), .val (.ref a_2), .val (.int 1), .val (.ref b28), .val (.ref b59), .val (.int 0), .val (.int 0), .unset, .unset] [(.int 0), (.ref ob1), (.int 1), (.int 0), (.ref b59)])) rfl rfl (hb hby own_d9_94) _ k) ?_
  show own_Go _ _ _ _ T68 (mkF m 95 #[.val (.ref a_1), .val (.ref a_2), .val (.int 1), .val (.ref b28), .val (.ref b59), .val (.int 0), .val (.int 0), .unset, .unset] [(.int 0), (.int 1), (.int 0), (.ref b59)])
  refine own_go (fun _ k => XS.isub X68.here hx rfl (hb hby own_d9_95) rfl k) ?_
  obtain ⟨q70, c70, R70, s70, t70⟩ := id V_b59
  have hin70 : ¬ ((0 : Int32) < 0 ∨ c70.slots.size ≤ ((0 : Int32)).toNatClampNeg) := inb_of s70 ⟨by decide, by decide⟩
  obtain ⟨T71, h71, X71, e71, W71, st71⟩ := stI X68 hx hZ e68 R70 (j := (0 : Int32)) hin70 (g := (mkF m 96 #[.val (.ref a_1), .val (.ref a_2), .val (.int 1), .val (.ref b28), .val (.ref b59), .val (.int 0), .val (.int 0), .unset, .unset] [(.int 1), (.int 0), (.ref b59)])) rfl rfl (hb hby own_d9_96)
  have V71 : own_AV Z h71 b59 .int 1 (own_upd (fun _ => (.int 0)) 0 (.int 1)) := own_AV.set (k := 0) V_b59 W71 (by decide)
  have z72 := W71.size
  have K71 : Keep h0 h71 [] := K59.wr W71 (Or.inr (by omega))
  have N71 := Fr.snoc X71 N32 (by omega : n0 ≤ b59)
  refine own_go (fun _ k => st71 _ k) ?_
  show own_Go _ _ _ _ T71 (mkF m 97 #[.val (.ref a_1), .val (.ref a_2), .val (.int 1), .val (.ref b28), .val (.ref b59), .val (.int 0), .val (.int 0), .unset, .unset] [])
  refine own_go (fun _ k => XS.aload X71.here hx rfl (hb hby own_d9_97) rfl rfl (XS.iload X71.here hx rfl (hb hby own_d9_99) rfl k)) ?_
  obtain ⟨q73, c73, R73, s73, t73⟩ := id V71
  have hin73 : ¬ ((0 : Int32) < 0 ∨ c73.slots.size ≤ ((0 : Int32)).toNatClampNeg) := inb_of s73 ⟨by decide, by decide⟩
  have u73 : c73.slots[((0 : Int32)).toNatClampNeg]? = some (.int 1) := own_at (k := 0) t73 s73 hin73 (by decide) (rfl)
  refine own_go (fun _ k => X71.iaload hx (j := (0 : Int32)) (v := (.int 1)) (by rw [e71]; exact R73.1) (State.isArrayOf_alike hZ.alike R73.2.1) R73.2.2 hin73 u73 (g := (mkF m 101 #[.val (.ref a_1), .val (.ref a_2), .val (.int 1), .val (.ref b28), .val (.ref b59), .val (.int 0), .val (.int 0), .unset, .unset] [(.int 0), (.ref b59)])) rfl rfl (hb hby own_d9_101) _ k) ?_
  show own_Go _ _ _ _ T71 (mkF m 102 #[.val (.ref a_1), .val (.ref a_2), .val (.int 1), .val (.ref b28), .val (.ref b59), .val (.int 0), .val (.int 0), .unset, .unset] [(.int 1)])
  have hc74 : ¬ ((1 : Int32) = 0) := by decide
  refine own_go (fun _ k => XS.ifYes X71.here hx rfl (pc0 := 102) (pc' := 118) rfl (hb hby own_d9_102) rfl (Jvm.Free.XT.i0_ne_t hc74) (by decide) (by decide) (XS.iinc X71.here hx rfl (hb hby own_d9_118) rfl (l' := #[.val (.ref a_1), .val (.ref a_2), .val (.int 1), .val (.ref b28), .val (.ref b59), .val (.int 1), .val (.int 0), .unset, .unset]) rfl (XS.goto X71.here hx rfl (pc0 := 121) (pc' := 66) rfl (hb hby own_d9_121) (by decide) (by decide) (XS.iload X71.here hx rfl (hb hby own_d9_66) rfl k)))) ?_
  show own_Go _ _ _ _ T71 (mkF m 68 #[.val (.ref a_1), .val (.ref a_2), .val (.int 1), .val (.ref b28), .val (.ref b59), .val (.int 1), .val (.int 0), .unset, .unset] [(.int 1)])
  refine own_go (fun _ k => XS.aloadN X71.here hx rfl (hb hby own_d9_68) rfl rfl k) ?_
  have f75 := (f61.other W71 (Or.inl (own_ne (by omega))))
  obtain ⟨T76, X76, e76, st76⟩ := getF X71 hx hZ hown (host := "") (Or.inl (own_w46 hw)) Via.refl e71 f75 (g := (mkF m 69 #[.val (.ref a_1), .val (.ref a_2), .val (.int 1), .val (.ref b28), .val (.ref b59), .val (.int 1), .val (.int 0), .unset, .unset] [(.ref a_1), (.int 1)])) rfl rfl (hb hby own_d9_69)
  refine own_go (fun _ k => st76 _ k) ?_
  show own_Go _ _ _ _ T76 (mkF m 72 #[.val (.ref a_1), .val (.ref a_2), .val (.int 1), .val (.ref b28), .val (.ref b59), .val (.int 1), .val (.int 0), .unset, .unset] [(.int 1), (.int 1)])
  have hc77 : ¬ ((1 : Int32) < (1 : Int32)) := by decide
  refine own_go (fun _ k => XS.icmpYes X76.here hx rfl (pc0 := 72) (pc' := 124) rfl (hb hby own_d9_72) rfl (Jvm.Free.XT.ii_ge_t hc77) (by decide) (by decide) (XS.aloadN X76.here hx rfl (hb hby own_d9_124) rfl rfl (XS.astore X76.here hx rfl (hb hby own_d9_125) rfl rfl (l' := #[.val (.ref a_1), .val (.ref a_2), .val (.int 1), .val (.ref b28), .val (.ref b59), .val (.ref a_2), .val (.int 0), .unset, .unset]) rfl (XS.aload X76.here hx rfl (hb hby own_d9_127) rfl rfl k)))) ?_
  show own_Go _ _ _ _ T76 (mkF m 129 #[.val (.ref a_1), .val (.ref a_2), .val (.int 1), .val (.ref b28), .val (.ref b59), .val (.ref a_2), .val (.int 0), .unset, .unset] [(.ref a_2)])
  have f78 := (((((f16.keep K21q nin0).ext E28).keep K32q (ninS (own_ne (by omega)) nin0)).ext E59).other W71 (own_ne (by omega)))
  obtain ⟨q79, c79, R79, s79, t79⟩ := id f78
  refine own_go (fun _ k => X76.arraylength hx (by rw [e76]; exact R79.1) (State.isArrayOf_alike hZ.alike R79.2.1) (g := (mkF m 129 #[.val (.ref a_1), .val (.ref a_2), .val (.int 1), .val (.ref b28), .val (.ref b59), .val (.ref a_2), .val (.int 0), .unset, .unset] [(.ref a_2)])) rfl rfl (hb hby own_d9_129) _ k) ?_
  rw [len_of s79 q79]
  show own_Go _ _ _ _ T76 (mkF m 130 #[.val (.ref a_1), .val (.ref a_2), .val (.int 1), .val (.ref b28), .val (.ref b59), .val (.ref a_2), .val (.int 0), .unset, .unset] [(.int 1)])
  refine own_go (fun _ k => XS.istore X76.here hx rfl (hb hby own_d9_130) rfl (l' := #[.val (.ref a_1), .val (.ref a_2), .val (.int 1), .val (.ref b28), .val (.ref b59), .val (.ref a_2), .val (.int 1), .unset, .unset]) rfl (XS.iconst X76.here hx rfl (hb hby own_d9_132) (XS.istore X76.here hx rfl (hb hby own_d9_133) rfl (l' := #[.val (.ref a_1), .val (.ref a_2), .val (.int 1), .val (.ref b28), .val (.ref b59), .val (.ref a_2), .val (.int 1), .val (.int 0), .unset]) rfl (XS.iload X76.here hx rfl (hb hby own_d9_135) rfl k)))) ?_
  show own_Go _ _ _ _ T76 (mkF m 137 #[.val (.ref a_1), .val (.ref a_2), .val (.int 1), .val (.ref b28), .val (.ref b59), .val (.ref a_2), .val (.int 1), .val (.int 0), .unset] [(.int 0)])
  refine own_go (fun _ k => XS.iload X76.here hx rfl (hb hby own_d9_137) rfl k) ?_
  have hc80 : (0 : Int32) < (1 : Int32) := by decide
  refine own_go (fun _ k => XS.icmpNo X76.here hx rfl (hb hby own_d9_139) rfl (Jvm.Free.XT.ii_ge_f hc80) (XS.aload X76.here hx rfl (hb hby own_d9_142) rfl rfl (XS.iload X76.here hx rfl (hb hby own_d9_144) rfl k))) ?_
  obtain ⟨q81, c81, R81, s81, t81⟩ := id f78
  have hin81 : ¬ ((0 : Int32) < 0 ∨ c81.slots.size ≤ ((0 : Int32)).toNatClampNeg) := inb_of s81 ⟨by decide, by decide⟩
  have u81 : c81.slots[((0 : Int32)).toNatClampNeg]? = some (.int 0) := own_at (k := 0) t81 s81 hin81 (by decide) (rfl)
  refine own_go (fun _ k => X76.iaload hx (j := (0 : Int32)) (v := (.int 0)) (by rw [e76]; exact R81.1) (State.isArrayOf_alike hZ.alike R81.2.1) R81.2.2 hin81 u81 (g := (mkF m 146 #[.val (.ref a_1), .val (.ref a_2), .val (.int 1), .val (.ref b28), .val (.ref b59), .val (.ref a_2), .val (.int 1), .val (.int 0), .unset] [(.int 0), (.ref a_2)])) rfl rfl (hb hby own_d9_146) _ k) ?_
  show own_Go _ _ _ _ T76 (mkF m 147 #[.val (.ref a_1), .val (.ref a_2), .val (.int 1), .val (.ref b28), .val (.ref b59), .val (.ref a_2), .val (.int 1), .val (.int 0), .unset] [(.int 0)])
  refine own_go (fun _ k => XS.istore X76.here hx rfl (hb hby own_d9_147) rfl (l' := #[.val (.ref a_1), .val (.ref a_2), .val (.int 1), .val (.ref b28), .val (.ref b59), .val (.ref a_2), .val (.int 1), .val (.int 0), .val (.int 0)]) rfl (XS.aloadN X76.here hx rfl (hb hby own_d9_149) rfl rfl (XS.iload X76.here hx rfl (hb hby own_d9_150) rfl (XS.iconst X76.here hx rfl (hb hby own_d9_152) k)))) ?_
  show own_Go _ _ _ _ T76 (mkF m 153 #[.val (.ref a_1), .val (.ref a_2), .val (.int 1), .val (.ref b28), .val (.ref b59), .val (.ref a_2), .val (.int 1), .val (.int 0), .val (.int 0)] [(.int (-1)), (.int 0), (.ref b28)])
  have f82 := ((f43.ext E59).other W71 (own_ne (by omega)))
  have f83 := ((f42.ext E59).other W71 (own_ne (by omega)))
  have f84 := ((f41.ext E59).other W71 (own_ne (by omega)))
  have f85 := ((f36.ext E59).wr W71)
  have f86 := ((f37.ext E59).other W71 (Or.inl (own_ne (by omega))))
  have f87 := ((f38.ext E59).other W71 (Or.inl (own_ne (by omega))))
  have f88 := ((f39.ext E59).other W71 (Or.inl (own_ne (by omega))))
  have f89 := ((f40.ext E59).other W71 (Or.inl (own_ne (by omega))))
  obtain ⟨cq90, kq90, q90a, q90b, q90c⟩ := isOf hZ e76 f85
  obtain ⟨_, _, ⟨T90, L90, k90, n90⟩, -, X90, ⟨Lc90, hQ90, l90, y90, z90⟩, st90⟩ := X76.virtualBack hx (y := (⟨own_N0, "assign", "(II)V"⟩ : MethodName)) (z := (⟨own_N0, "assign", "(II)V"⟩ : MethodName)) hown (mvT hZ (hw _ (List.mem_of_getElem? (i := 124) rfl))) (mvT hZ (hw _ (List.mem_of_getElem? (i := 125) rfl))) (notFace_of_selects (args := #[]) (mvT hZ (hw _ (List.mem_of_getElem? (i := 127) rfl)))) (mvT hZ (hw _ (List.mem_of_getElem? (i := 127) rfl))) (mvT hZ (hw _ (List.mem_of_getElem? (i := 126) rfl))) (by decide) (backOf (W := 0) (own_rm20_s2 l Z a0 hw [] b28 x_33 x_34 x_35 h71 n0 (by omega) f82 f83 f84 f85 f86 f87 f88 f89 (by simp only [own_lts, and_true]; omega) (by omega) (by omega) (by omega) (by omega)) hZ (hw _ (List.mem_of_getElem? (i := 128) rfl)) (own_w112 hw) (by decide) (by decide)) q90a q90c (g := (mkF m 153 #[.val (.ref a_1), .val (.ref a_2), .val (.int 1), .val (.ref b28), .val (.ref b59), .val (.ref a_2), .val (.int 1), .val (.int 0), .val (.int 0)] [(.int (-1)), (.int 0), (.ref b28)])) rfl (by rw [hml]; rfl) (Steps.refl _) (argsL := [(.int 0), (.int (-1))]) (rest := []) (lenOf own_pd12 rfl) rfl (by show 2 * 0 + _ ≤ _; exact Nat.le_of_eq rfl) (hb hby own_d9_153) (fun _ _ => ⟨rfl, e76, (by show k32 + 1 + _ ≤ _; rw [y32]; decide), (by show n32 + 1 + _ ≤ _; rw [z32]; decide)⟩)
  dsimp only [Pt.U, Pt.locs, Pt.cells, Pt.slots] at X90 l90 y90 z90 st90 hQ90
  have y90 : k90 = 9 := own_addeq y90 (congrArg (fun q => q + 1) y32) rfl
  have z90 : n90 = 86 := own_addeq z90 (congrArg (fun q => q + 1) z32) rfl
  obtain ⟨rfl, N90q, K90q, f91, f92, f93, f94, f95, f96, f97, f98⟩ := hQ90
  have N90 : Fr n0 L90 := by rw [l90]; exact Fr.app N71 N90q
  have z99 := K90q.1
  have K90 : Keep h0 T90.heap [] := K71.trans K90q (allS (Or.inr (by omega)) (allS (Or.inr (by omega)) (allS (Or.inr (by omega)) (allS (Or.inr (by omega)) all0))))
  have z100 := own_lt f91.lt
  have z101 := own_lt f92.lt
  have z102 := own_lt f93.lt
  have z103 := own_lt f94.lt
  have z104 := own_lt f95.lt
  have z105 := own_lt f96.lt
  have z106 := own_lt f97.lt
  have z107 := own_lt f98.lt
  refine own_go (fun _ k => st90.trans k) ?_
  show own_Go _ _ _ _ T90 (mkF m 156 #[.val (.ref a_1), .val (.ref a_2), .val (.int 1), .val (.ref b28), .val (.ref b59), .val (.ref a_2), .val (.int 1), .val (.int 0), .val (.int 0)] [])
  refine own_go (fun _ k => XS.iinc X90.here hx rfl (hb hby own_d9_156) rfl (l' := #[.val (.ref a_1), .val (.ref a_2), .val (.int 1), .val (.ref b28), .val (.ref b59), .val (.ref a_2), .val (.int 1), .val (.int 1), .val (.int 0)]) rfl (XS.goto X90.here hx rfl (pc0 := 159) (pc' := 135) rfl (hb hby own_d9_159) (by decide) (by decide) (XS.iload X90.here hx rfl (hb hby own_d9_135) rfl (XS.iload X90.here hx rfl (hb hby own_d9_137) rfl k)))) ?_
  show own_Go _ _ _ _ T90 (mkF m 139 #[.val (.ref a_1), .val (.ref a_2), .val (.int 1), .val (.ref b28), .val (.ref b59), .val (.ref a_2), .val (.int 1), .val (.int 1), .val (.int 0)] [(.int 1), (.int 1)])
  have hc108 : ¬ ((1 : Int32) < (1 : Int32)) := by decide
  refine own_go (fun _ k => XS.icmpYes X90.here hx rfl (pc0 := 139) (pc' := 162) rfl (hb hby own_d9_139) rfl (Jvm.Free.XT.ii_ge_t hc108) (by decide) (by decide) (XS.iconst X90.here hx rfl (hb hby own_d9_162) (XS.istore X90.here hx rfl (hb hby own_d9_163) rfl (l' := #[.val (.ref a_1), .val (.ref a_2), .val (.int 1), .val (.ref b28), .val (.ref b59), .val (.int 0), .val (.int 1), .val (.int 1), .val (.int 0)]) rfl (XS.aloadN X90.here hx rfl (hb hby own_d9_165) rfl rfl k)))) ?_
  show own_Go _ _ _ _ T90 (mkF m 166 #[.val (.ref a_1), .val (.ref a_2), .val (.int 1), .val (.ref b28), .val (.ref b59), .val (.int 0), .val (.int 1), .val (.int 1), .val (.int 0)] [(.ref b28)])
  refine own_go (fun _ k => XS.iloadN X90.here hx rfl (hb hby own_d9_166) rfl k) ?_
  obtain ⟨cq109, kq109, q109a, q109b, q109c⟩ := isOf hZ rfl f94
  obtain ⟨_, _, ⟨T109, L109, k109, n109⟩, -, X109, ⟨Lc109, hQ109, l109, y109, z109⟩, st109⟩ := X90.virtualBack hx (y := (⟨own_N0, "isTrue", "(I)Z"⟩ : MethodName)) (z := (⟨own_N0, "isTrue", "(I)Z"⟩ : MethodName)) hown (mvT hZ (hw _ (List.mem_of_getElem? (i := 131) rfl))) (mvT hZ (hw _ (List.mem_of_getElem? (i := 132) rfl))) (notFace_of_selects (args := #[]) (mvT hZ (own_w134 hw))) (mvT hZ (own_w134 hw)) (mvT hZ (hw _ (List.mem_of_getElem? (i := 133) rfl))) (by decide) (backOf (W := 0) (own_rm21_s2 l Z a0 hw [] b28 x_35 T90.heap n0 (by omega) f91 f98 (by simp only [own_lts, and_true]; omega)) hZ (hw _ (List.mem_of_getElem? (i := 135) rfl)) (own_w112 hw) (by decide) (by decide)) q109a q109c (g := (mkF m 167 #[.val (.ref a_1), .val (.ref a_2), .val (.int 1), .val (.ref b28), .val (.ref b59), .val (.int 0), .val (.int 1), .val (.int 1), .val (.int 0)] [(.int 1), (.ref b28)])) rfl (by rw [hml]; rfl) (Steps.refl _) (argsL := [(.int 1)]) (rest := []) (lenOf own_pd13 rfl) rfl (by show 2 * 0 + _ ≤ _; exact Nat.le_of_eq rfl) (hb hby own_d9_167) (fun _ _ => ⟨rfl, rfl, (by show k90 + _ ≤ _; rw [y90]; decide), (by show n90 + _ ≤ _; rw [z90]; decide)⟩)
  dsimp only [Pt.U, Pt.locs, Pt.cells, Pt.slots] at X109 l109 y109 z109 st109 hQ109
  have y109 : k109 = 9 := own_addeq y109 (congrArg (fun q => q) y90) rfl
  have z109 : n109 = 86 := own_addeq z109 (congrArg (fun q => q) z90) rfl
  obtain ⟨rfl, N109q, e109⟩ := hQ109
  have N109 : Fr n0 L109 := by rw [l109]; exact Fr.app N90 N109q
  refine own_go (fun _ k => st109.trans k) ?_
  show own_Go _ _ _ _ T109 (mkF m 170 #[.val (.ref a_1), .val (.ref a_2), .val (.int 1), .val (.ref b28), .val (.ref b59), .val (.int 0), .val (.int 1), .val (.int 1), .val (.int 0)] [(.int 0)])
  have hc110 : (0 : Int32) = 0 := by decide
  refine own_go (fun _ k => XS.ifNo X109.here hx rfl (hb hby own_d9_170) rfl (Jvm.Free.XT.i0_ne_f hc110) (XS.iload X109.here hx rfl (hb hby own_d9_173) rfl (XS.aloadN X109.here hx rfl (hb hby own_d9_175) rfl rfl k))) ?_
  obtain ⟨cq111, kq111, q111a, q111b, q111c⟩ := isOf hZ e109 f94
  obtain ⟨_, _, ⟨T111, L111, k111, n111⟩, -, X111, ⟨Lc111, hQ111, l111, y111, z111⟩, st111⟩ := X109.virtualBack hx (y := (⟨own_N0, "size", "()I"⟩ : MethodName)) (z := (⟨own_N0, "size", "()I"⟩ : MethodName)) hown (mvT hZ (hw _ (List.mem_of_getElem? (i := 136) rfl))) (mvT hZ (hw _ (List.mem_of_getElem? (i := 137) rfl))) (notFace_of_selects (args := #[]) (mvT hZ (hw _ (List.mem_of_getElem? (i := 139) rfl)))) (mvT hZ (hw _ (List.mem_of_getElem? (i := 139) rfl))) (mvT hZ (hw _ (List.mem_of_getElem? (i := 138) rfl))) (by decide) (backOf (W := 1) (own_rm22_s1 l Z a0 hw [] b28  T90.heap n0 (by omega) f97) hZ (hw _ (List.mem_of_getElem? (i := 140) rfl)) (own_w112 hw) (by decide) (by decide)) q111a q111c (g := (mkF m 176 #[.val (.ref a_1), .val (.ref a_2), .val (.int 1), .val (.ref b28), .val (.ref b59), .val (.int 0), .val (.int 1), .val (.int 1), .val (.int 0)] [(.ref b28), (.int 0)])) rfl (by rw [hml]; rfl) (Steps.refl _) (argsL := []) (rest := [(.int 0)]) (lenOf own_pd2 rfl) rfl (by show 2 * 0 + _ ≤ _; exact Nat.le_of_eq rfl) (hb hby own_d9_176) (fun _ _ => ⟨rfl, e109, (by show k109 + _ ≤ _; rw [y109]; decide), (by show n109 + _ ≤ _; rw [z109]; decide)⟩)
  dsimp only [Pt.U, Pt.locs, Pt.cells, Pt.slots] at X111 l111 y111 z111 st111 hQ111
  have y111 : k111 = 9 := own_addeq y111 (congrArg (fun q => q) y109) rfl
  have z111 : n111 = 86 := own_addeq z111 (congrArg (fun q => q) z109) rfl
  obtain ⟨rfl, N111q, e111⟩ := hQ111
  have N111 : Fr n0 L111 := by rw [l111]; exact Fr.app N109 N111q
  refine own_go (fun _ k => st111.trans k) ?_
  show own_Go _ _ _ _ T111 (mkF m 179 #[.val (.ref a_1), .val (.ref a_2), .val (.int 1), .val (.ref b28), .val (.ref b59), .val (.int 0), .val (.int 1), .val (.int 1), .val (.int 0)] [(.int 1), (.int 0)])
  have hc112 : (0 : Int32) < (1 : Int32) := by decide
  refine own_go (fun _ k => XS.icmpNo X111.here hx rfl (hb hby own_d9_179) rfl (Jvm.Free.XT.ii_ge_f hc112) (XS.aloadN X111.here hx rfl (hb hby own_d9_182) rfl rfl (XS.iload X111.here hx rfl (hb hby own_d9_183) rfl k))) ?_
  obtain ⟨cq113, kq113, q113a, q113b, q113c⟩ := isOf hZ e111 f94
  obtain ⟨_, _, ⟨T113, L113, k113, n113⟩, -, X113, ⟨Lc113, hQ113, l113, y113, z113⟩, st113⟩ := X111.virtualBack hx (y := (⟨own_N0, "get", "(I)I"⟩ : MethodName)) (z := (⟨own_N0, "get", "(I)I"⟩ : MethodName)) hown (mvT hZ (hw _ (List.mem_of_getElem? (i := 141) rfl))) (mvT hZ (hw _ (List.mem_of_getElem? (i := 142) rfl))) (notFace_of_selects (args := #[]) (mvT hZ (hw _ (List.mem_of_getElem? (i := 144) rfl)))) (mvT hZ (hw _ (List.mem_of_getElem? (i := 144) rfl))) (mvT hZ (hw _ (List.mem_of_getElem? (i := 143) rfl))) (by decide) (backOf (W := 0) (own_rm23_s2 l Z a0 hw [] b28 x_33 T90.heap n0 (by omega) f93 f95 (by simp only [own_lts, and_true]; omega)) hZ (hw _ (List.mem_of_getElem? (i := 145) rfl)) (own_w112 hw) (by decide) (by decide)) q113a q113c (g := (mkF m 185 #[.val (.ref a_1), .val (.ref a_2), .val (.int 1), .val (.ref b28), .val (.ref b59), .val (.int 0), .val (.int 1), .val (.int 1), .val (.int 0)] [(.int 0), (.ref b28)])) rfl (by rw [hml]; rfl) (Steps.refl _) (argsL := [(.int 0)]) (rest := []) (lenOf own_pd14 rfl) rfl (by show 2 * 0 + _ ≤ _; exact Nat.le_of_eq rfl) (hb hby own_d9_185) (fun _ _ => ⟨rfl, e111, (by show k111 + _ ≤ _; rw [y111]; decide), (by show n111 + _ ≤ _; rw [z111]; decide)⟩)
  dsimp only [Pt.U, Pt.locs, Pt.cells, Pt.slots] at X113 l113 y113 z113 st113 hQ113
  have y113 : k113 = 9 := own_addeq y113 (congrArg (fun q => q) y111) rfl
  have z113 : n113 = 86 := own_addeq z113 (congrArg (fun q => q) z111) rfl
  obtain ⟨rfl, N113q, e113⟩ := hQ113
  have N113 : Fr n0 L113 := by rw [l113]; exact Fr.app N111 N113q
  refine own_go (fun _ k => st113.trans k) ?_
  show own_Go _ _ _ _ T113 (mkF m 188 #[.val (.ref a_1), .val (.ref a_2), .val (.int 1), .val (.ref b28), .val (.ref b59), .val (.int 0), .val (.int 1), .val (.int 1), .val (.int 0)] [(.int 0)])
  refine own_go (fun _ k => XS.istore X113.here hx rfl (hb hby own_d9_188) rfl (l' := #[.val (.ref a_1), .val (.ref a_2), .val (.int 1), .val (.ref b28), .val (.ref b59), .val (.int 0), .val (.int 0), .val (.int 1), .val (.int 0)]) rfl (XS.iinc X113.here hx rfl (hb hby own_d9_190) rfl (l' := #[.val (.ref a_1), .val (.ref a_2), .val (.int 1), .val (.ref b28), .val (.ref b59), .val (.int 1), .val (.int 0), .val (.int 1), .val (.int 0)]) rfl (XS.aloadN X113.here hx rfl (hb hby own_d9_193) rfl rfl k))) ?_
  have f114 := (((((((pr_F_a_1_occurrenceStarts.keep K14q nin0).keep K21q nin0).ext E28).keep K32q (ninS (own_ne (by omega)) nin0)).ext E59).other W71 (Or.inl (own_ne (by omega)))).keep K90q (ninS (own_ne (by omega)) (ninS (own_ne (by omega)) (ninS (own_ne (by omega)) (ninS (own_ne (by omega)) nin0)))))
  obtain ⟨T115, X115, e115, st115⟩ := getF X113 hx hZ hown (host := "") (Or.inl (own_w108 hw)) Via.refl e113 f114 (g := (mkF m 194 #[.val (.ref a_1), .val (.ref a_2), .val (.int 1), .val (.ref b28), .val (.ref b59), .val (.int 1), .val (.int 0), .val (.int 1), .val (.int 0)] [(.ref a_1)])) rfl rfl (hb hby own_d9_194)
  refine own_go (fun _ k => st115 _ k) ?_
  show own_Go _ _ _ _ T115 (mkF m 197 #[.val (.ref a_1), .val (.ref a_2), .val (.int 1), .val (.ref b28), .val (.ref b59), .val (.int 1), .val (.int 0), .val (.int 1), .val (.int 0)] [(.ref ob2)])
  refine own_go (fun _ k => XS.iload X115.here hx rfl (hb hby own_d9_197) rfl k) ?_
  have f116 := (((((((pr_A_ob2.keep K14q nin0).keep K21q nin0).ext E28).keep K32q (ninS (own_ne (by omega)) nin0)).ext E59).other W71 (own_ne (by omega))).keep K90q (ninS (own_ne (by omega)) (ninS (own_ne (by omega)) (ninS (own_ne (by omega)) (ninS (own_ne (by omega)) nin0)))))
  obtain ⟨q117, c117, R117, s117, t117⟩ := id f116
  have hin117 : ¬ ((0 : Int32) < 0 ∨ c117.slots.size ≤ ((0 : Int32)).toNatClampNeg) := inb_of s117 ⟨by decide, by decide⟩
  have u117 : c117.slots[((0 : Int32)).toNatClampNeg]? = some (.int 0) := own_at (k := 0) t117 s117 hin117 (by decide) (rfl)
  refine own_go (fun _ k => X115.iaload hx (j := (0 : Int32)) (v := (.int 0)) (by rw [e115]; exact R117.1) (State.isArrayOf_alike hZ.alike R117.2.1) R117.2.2 hin117 u117 (g := (mkF m 199 #[.val (.ref a_1), .val (.ref a_2), .val (.int 1), .val (.ref b28), .val (.ref b59), .val (.int 1), .val (.int 0), .val (.int 1), .val (.int 0)] [(.int 0), (.ref ob2)])) rfl rfl (hb hby own_d9_199) _ k) ?_
  show own_Go _ _ _ _ T115 (mkF m 200 #[.val (.ref a_1), .val (.ref a_2), .val (.int 1), .val (.ref b28), .val (.ref b59), .val (.int 1), .val (.int 0), .val (.int 1), .val (.int 0)] [(.int 0)])
  refine own_go (fun _ k => XS.istore X115.here hx rfl (hb hby own_d9_200) rfl (l' := #[.val (.ref a_1), .val (.ref a_2), .val (.int 1), .val (.ref b28), .val (.ref b59), .val (.int 1), .val (.int 0), .val (.int 0), .val (.int 0)]) rfl (XS.iload X115.here hx rfl (hb hby own_d9_202) rfl (XS.aloadN X115.here hx rfl (hb hby own_d9_204) rfl rfl k))) ?_
  obtain ⟨T118, X118, e118, st118⟩ := getF X115 hx hZ hown (host := "") (Or.inl (own_w108 hw)) Via.refl e115 f114 (g := (mkF m 205 #[.val (.ref a_1), .val (.ref a_2), .val (.int 1), .val (.ref b28), .val (.ref b59), .val (.int 1), .val (.int 0), .val (.int 0), .val (.int 0)] [(.ref a_1), (.int 0)])) rfl rfl (hb hby own_d9_205)
  refine own_go (fun _ k => st118 _ k) ?_
  show own_Go _ _ _ _ T118 (mkF m 208 #[.val (.ref a_1), .val (.ref a_2), .val (.int 1), .val (.ref b28), .val (.ref b59), .val (.int 1), .val (.int 0), .val (.int 0), .val (.int 0)] [(.ref ob2), (.int 0)])
  refine own_go (fun _ k => XS.iload X118.here hx rfl (hb hby own_d9_208) rfl (XS.iconst X118.here hx rfl (hb hby own_d9_210) (XS.iadd X118.here hx rfl (hb hby own_d9_211) rfl k))) ?_
  obtain ⟨q119, c119, R119, s119, t119⟩ := id f116
  have hin119 : ¬ ((1 : Int32) < 0 ∨ c119.slots.size ≤ ((1 : Int32)).toNatClampNeg) := inb_of s119 ⟨by decide, by decide⟩
  have u119 : c119.slots[((1 : Int32)).toNatClampNeg]? = some (.int 1) := own_at (k := 1) t119 s119 hin119 (by decide) (rfl)
  refine own_go (fun _ k => X118.iaload hx (j := (1 : Int32)) (v := (.int 1)) (by rw [e118]; exact R119.1) (State.isArrayOf_alike hZ.alike R119.2.1) R119.2.2 hin119 u119 (g := (mkF m 212 #[.val (.ref a_1), .val (.ref a_2), .val (.int 1), .val (.ref b28), .val (.ref b59), .val (.int 1), .val (.int 0), .val (.int 0), .val (.int 0)] [(.int 1), (.ref ob2), (.int 0)])) rfl rfl (hb hby own_d9_212) _ k) ?_
  show own_Go _ _ _ _ T118 (mkF m 213 #[.val (.ref a_1), .val (.ref a_2), .val (.int 1), .val (.ref b28), .val (.ref b59), .val (.int 1), .val (.int 0), .val (.int 0), .val (.int 0)] [(.int 1), (.int 0)])
  have hc120 : (0 : Int32) < (1 : Int32) := by decide
  refine own_go (fun _ k => XS.icmpNo X118.here hx rfl (hb hby own_d9_213) rfl (Jvm.Free.XT.ii_ge_f hc120) (XS.aloadN X118.here hx rfl (hb hby own_d9_216) rfl rfl k)) ?_
  have f121 := (((((f25.ext E28).keep K32q (ninS (own_ne (by omega)) nin0)).ext E59).other W71 (Or.inl (own_ne (by omega)))).keep K90q (ninS (own_ne (by omega)) (ninS (own_ne (by omega)) (ninS (own_ne (by omega)) (ninS (own_ne (by omega)) nin0)))))
  obtain ⟨T122, X122, e122, st122⟩ := getF X118 hx hZ hown (host := "") (Or.inl (hw _ (List.mem_of_getElem? (i := 21) rfl))) Via.refl e118 f121 (g := (mkF m 217 #[.val (.ref a_1), .val (.ref a_2), .val (.int 1), .val (.ref b28), .val (.ref b59), .val (.int 1), .val (.int 0), .val (.int 0), .val (.int 0)] [(.ref a_1)])) rfl rfl (hb hby own_d9_217)
  refine own_go (fun _ k => st122 _ k) ?_
  show own_Go _ _ _ _ T122 (mkF m 220 #[.val (.ref a_1), .val (.ref a_2), .val (.int 1), .val (.ref b28), .val (.ref b59), .val (.int 1), .val (.int 0), .val (.int 0), .val (.int 0)] [(.ref ob3)])
  refine own_go (fun _ k => XS.iload X122.here hx rfl (hb hby own_d9_220) rfl k) ?_
  have f123 := (((((((pr_A_ob3.keep K14q nin0).keep K21q nin0).ext E28).keep K32q (ninS (own_ne (by omega)) nin0)).ext E59).other W71 (own_ne (by omega))).keep K90q (ninS (own_ne (by omega)) (ninS (own_ne (by omega)) (ninS (own_ne (by omega)) (ninS (own_ne (by omega)) nin0)))))
  obtain ⟨q124, c124, R124, s124, t124⟩ := id f123
  have hin124 : ¬ ((0 : Int32) < 0 ∨ c124.slots.size ≤ ((0 : Int32)).toNatClampNeg) := inb_of s124 ⟨by decide, by decide⟩
  have u124 : c124.slots[((0 : Int32)).toNatClampNeg]? = some (.int 0) := own_at (k := 0) t124 s124 hin124 (by decide) (rfl)
  refine own_go (fun _ k => X122.iaload hx (j := (0 : Int32)) (v := (.int 0)) (by rw [e122]; exact R124.1) (State.isArrayOf_alike hZ.alike R124.2.1) R124.2.2 hin124 u124 (g := (mkF m 222 #[.val (.ref a_1), .val (.ref a_2), .val (.int 1), .val (.ref b28), .val (.ref b59), .val (.int 1), .val (.int 0), .val (.int 0), .val (.int 0)] [(.int 0), (.ref ob3)])) rfl rfl (hb hby own_d9_222) _ k) ?_
  show own_Go _ _ _ _ T122 (mkF m 223 #[.val (.ref a_1), .val (.ref a_2), .val (.int 1), .val (.ref b28), .val (.ref b59), .val (.int 1), .val (.int 0), .val (.int 0), .val (.int 0)] [(.int 0)])
  refine own_go (fun _ k => XS.istore X122.here hx rfl (hb hby own_d9_223) rfl (l' := #[.val (.ref a_1), .val (.ref a_2), .val (.int 1), .val (.ref b28), .val (.ref b59), .val (.int 1), .val (.int 0), .val (.int 0), .val (.int 0)]) rfl (XS.aload X122.here hx rfl (hb hby own_d9_225) rfl rfl (XS.iload X122.here hx rfl (hb hby own_d9_227) rfl k))) ?_
  have sd125 : ∀ target, Steps p.tables e below (T122.setTop (mkF m 230 #[.val (.ref a_1), .val (.ref a_2), .val (.int 1), .val (.ref b28), .val (.ref b59), .val (.int 1), .val (.int 0), .val (.int 0), .val (.int 0)] [(.int 0), (.ref b59), (.int 0), (.ref b59)])) target → Steps p.tables e below (T122.setTop (mkF m 229 #[.val (.ref a_1), .val (.ref a_2), .val (.int 1), .val (.ref b28), .val (.ref b59), .val (.int 1), .val (.int 0), .val (.int 0), .val (.int 0)] [(.int 0), (.ref b59)])) target := fun target kk => by
    jvm_step X122.here [X122.here.top, hx, (hb hby own_d9_229), Value.category]
    exact kk
  refine own_go (fun _ k => sd125 _ k) ?_
  show own_Go _ _ _ _ T122 (mkF m 230 #[.val (.ref a_1), .val (.ref a_2), .val (.int 1), .val (.ref b28), .val (.ref b59), .val (.int 1), .val (.int 0), .val (.int 0), .val (.int 0)] [(.int 0), (.ref b59), (.int 0), (.ref b59)])
  have f126 := (V71.keep K90q (ninS (own_ne (by omega)) (ninS (own_ne (by omega)) (ninS (own_ne (by omega)) (ninS (own_ne (by omega)) nin0)))))
  obtain ⟨q127, c127, R127, s127, t127⟩ := id f126
  have hin127 : ¬ ((0 : Int32) < 0 ∨ c127.slots.size ≤ ((0 : Int32)).toNatClampNeg) := inb_of s127 ⟨by decide, by decide⟩
  have u127 : c127.slots[((0 : Int32)).toNatClampNeg]? = some (.int 1) := own_at (k := 0) t127 s127 hin127 (by decide) (rfl)
  refine own_go (fun _ k => X122.iaload hx (j := (0 : Int32)) (v := (.int 1)) (by rw [e122]; exact R127.1) (State.isArrayOf_alike hZ.alike R127.2.1) R127.2.2 hin127 u127 (g := (mkF m 230 #[.val (.ref a_1), .val (.ref a_2), .val (.int 1), .val (.ref b28), .val (.ref b59), .val (.int 1), .val (.int 0), .val (.int 0), .val (.int 0)] [(.int 0), (.ref b59), (.int 0), (.ref b59)])) rfl rfl (hb hby own_d9_230) _ k) ?_
  show own_Go _ _ _ _ T122 (mkF m 231 #[.val (.ref a_1), .val (.ref a_2), .val (.int 1), .val (.ref b28), .val (.ref b59), .val (.int 1), .val (.int 0), .val (.int 0), .val (.int 0)] [(.int 1), (.int 0), (.ref b59)])
  refine own_go (fun _ k => XS.iconst X122.here hx rfl (hb hby own_d9_231) (XS.isub X122.here hx rfl (hb hby own_d9_232) rfl k)) ?_
  obtain ⟨q128, c128, R128, s128, t128⟩ := id f126
  have hin128 : ¬ ((0 : Int32) < 0 ∨ c128.slots.size ≤ ((0 : Int32)).toNatClampNeg) := inb_of s128 ⟨by decide, by decide⟩
  obtain ⟨T129, h129, X129, e129, W129, st129⟩ := stI X122 hx hZ e122 R128 (j := (0 : Int32)) hin128 (g := (mkF m 233 #[.val (.ref a_1), .val (.ref a_2), .val (.int 1), .val (.ref b28), .val (.ref b59), .val (.int 1), .val (.int 0), .val (.int 0), .val (.int 0)] [(.int 0), (.int 0), (.ref b59)])) rfl rfl (hb hby own_d9_233)
  have V129 : own_AV Z h129 b59 .int 1 (own_upd (own_upd (fun _ => (.int 0)) 0 (.int 1)) 0 (.int 0)) := own_AV.set (k := 0) f126 W129 (by decide)
  have z130 := W129.size
  have K129 : Keep h0 h129 [] := K90.wr W129 (Or.inr (by omega))
  have N129 := Fr.snoc X129 N113 (by omega : n0 ≤ b59)
  refine own_go (fun _ k => st129 _ k) ?_
  show own_Go _ _ _ _ T129 (mkF m 234 #[.val (.ref a_1), .val (.ref a_2), .val (.int 1), .val (.ref b28), .val (.ref b59), .val (.int 1), .val (.int 0), .val (.int 0), .val (.int 0)] [])
  refine own_go (fun _ k => XS.aload X129.here hx rfl (hb hby own_d9_234) rfl rfl (XS.iload X129.here hx rfl (hb hby own_d9_236) rfl k)) ?_
  obtain ⟨q131, c131, R131, s131, t131⟩ := id V129
  have hin131 : ¬ ((0 : Int32) < 0 ∨ c131.slots.size ≤ ((0 : Int32)).toNatClampNeg) := inb_of s131 ⟨by decide, by decide⟩
  have u131 : c131.slots[((0 : Int32)).toNatClampNeg]? = some (.int 0) := own_at (k := 0) t131 s131 hin131 (by decide) (rfl)
  refine own_go (fun _ k => X129.iaload hx (j := (0 : Int32)) (v := (.int 0)) (by rw [e129]; exact R131.1) (State.isArrayOf_alike hZ.alike R131.2.1) R131.2.2 hin131 u131 (g := (mkF m 238 #[.val (.ref a_1), .val (.ref a_2), .val (.int 1), .val (.ref b28), .val (.ref b59), .val (.int 1), .val (.int 0), .val (.int 0), .val (.int 0)] [(.int 0), (.ref b59)])) rfl rfl (hb hby own_d9_238) _ k) ?_
  show own_Go _ _ _ _ T129 (mkF m 239 #[.val (.ref a_1), .val (.ref a_2), .val (.int 1), .val (.ref b28), .val (.ref b59), .val (.int 1), .val (.int 0), .val (.int 0), .val (.int 0)] [(.int 0)])
  have hc132 : (0 : Int32) = 0 := by decide
  refine own_go (fun _ k => XS.ifNo X129.here hx rfl (hb hby own_d9_239) rfl (Jvm.Free.XT.i0_ne_f hc132) (XS.aloadN X129.here hx rfl (hb hby own_d9_242) rfl rfl (XS.aloadN X129.here hx rfl (hb hby own_d9_243) rfl rfl k))) ?_
  have f133 := ((((((((pr_F_a_1_heads.keep K14q nin0).keep K21q nin0).ext E28).keep K32q (ninS (own_ne (by omega)) nin0)).ext E59).other W71 (Or.inl (own_ne (by omega)))).keep K90q (ninS (own_ne (by omega)) (ninS (own_ne (by omega)) (ninS (own_ne (by omega)) (ninS (own_ne (by omega)) nin0))))).other W129 (Or.inl (own_ne (by omega))))
  obtain ⟨T134, X134, e134, st134⟩ := getF X129 hx hZ hown (host := "") (Or.inl (hw _ (List.mem_of_getElem? (i := 10) rfl))) Via.refl e129 f133 (g := (mkF m 244 #[.val (.ref a_1), .val (.ref a_2), .val (.int 1), .val (.ref b28), .val (.ref b59), .val (.int 1), .val (.int 0), .val (.int 0), .val (.int 0)] [(.ref a_1), (.ref b28)])) rfl rfl (hb hby own_d9_244)
  refine own_go (fun _ k => st134 _ k) ?_
  show own_Go _ _ _ _ T134 (mkF m 247 #[.val (.ref a_1), .val (.ref a_2), .val (.int 1), .val (.ref b28), .val (.ref b59), .val (.int 1), .val (.int 0), .val (.int 0), .val (.int 0)] [(.ref ob0), (.ref b28)])
  refine own_go (fun _ k => XS.iload X134.here hx rfl (hb hby own_d9_247) rfl k) ?_
  have f135 := ((((((((pr_A_ob0.keep K14q nin0).keep K21q nin0).ext E28).keep K32q (ninS (own_ne (by omega)) nin0)).ext E59).other W71 (own_ne (by omega))).keep K90q (ninS (own_ne (by omega)) (ninS (own_ne (by omega)) (ninS (own_ne (by omega)) (ninS (own_ne (by omega)) nin0))))).other W129 (own_ne (by omega)))
  obtain ⟨q136, c136, R136, s136, t136⟩ := id f135
  have hin136 : ¬ ((0 : Int32) < 0 ∨ c136.slots.size ≤ ((0 : Int32)).toNatClampNeg) := inb_of s136 ⟨by decide, by decide⟩
  have u136 : c136.slots[((0 : Int32)).toNatClampNeg]? = some (.int 1) := own_at (k := 0) t136 s136 hin136 (by decide) (rfl)
  refine own_go (fun _ k => X134.iaload hx (j := (0 : Int32)) (v := (.int 1)) (by rw [e134]; exact R136.1) (State.isArrayOf_alike hZ.alike R136.2.1) R136.2.2 hin136 u136 (g := (mkF m 249 #[.val (.ref a_1), .val (.ref a_2), .val (.int 1), .val (.ref b28), .val (.ref b59), .val (.int 1), .val (.int 0), .val (.int 0), .val (.int 0)] [(.int 0), (.ref ob0), (.ref b28)])) rfl rfl (hb hby own_d9_249) _ k) ?_
  show own_Go _ _ _ _ T134 (mkF m 250 #[.val (.ref a_1), .val (.ref a_2), .val (.int 1), .val (.ref b28), .val (.ref b59), .val (.int 1), .val (.int 0), .val (.int 0), .val (.int 0)] [(.int 1), (.ref b28)])
  refine own_go (fun _ k => XS.iload X134.here hx rfl (hb hby own_d9_250) rfl k) ?_
  have f137 := (f91.other W129 (own_ne (by omega)))
  have f138 := (f92.other W129 (own_ne (by omega)))
  have f139 := (f93.other W129 (own_ne (by omega)))
  have f140 := (f94.wr W129)
  have f141 := (f95.other W129 (Or.inl (own_ne (by omega))))
  have f142 := (f96.other W129 (Or.inl (own_ne (by omega))))
  have f143 := (f97.other W129 (Or.inl (own_ne (by omega))))
  have f144 := (f98.other W129 (Or.inl (own_ne (by omega))))
  obtain ⟨cq145, kq145, q145a, q145b, q145c⟩ := isOf hZ e134 f140
  obtain ⟨_, _, ⟨T145, L145, k145, n145⟩, -, X145, ⟨Lc145, hQ145, l145, y145, z145⟩, st145⟩ := X134.virtualBack hx (y := (⟨own_N0, "assign", "(II)V"⟩ : MethodName)) (z := (⟨own_N0, "assign", "(II)V"⟩ : MethodName)) hown (mvT hZ (hw _ (List.mem_of_getElem? (i := 124) rfl))) (mvT hZ (hw _ (List.mem_of_getElem? (i := 125) rfl))) (notFace_of_selects (args := #[]) (mvT hZ (hw _ (List.mem_of_getElem? (i := 127) rfl)))) (mvT hZ (hw _ (List.mem_of_getElem? (i := 127) rfl))) (mvT hZ (hw _ (List.mem_of_getElem? (i := 126) rfl))) (by decide) (backOf (W := 0) (own_rm20_s3 l Z a0 hw [] b28 x_33 x_34 x_35 h129 n0 (by omega) f137 f138 f139 f140 f141 f142 f143 f144 (by simp only [own_lts, and_true]; omega) (by omega) (by omega) (by omega) (by omega)) hZ (hw _ (List.mem_of_getElem? (i := 128) rfl)) (own_w112 hw) (by decide) (by decide)) q145a q145c (g := (mkF m 252 #[.val (.ref a_1), .val (.ref a_2), .val (.int 1), .val (.ref b28), .val (.ref b59), .val (.int 1), .val (.int 0), .val (.int 0), .val (.int 0)] [(.int 0), (.int 1), (.ref b28)])) rfl (by rw [hml]; rfl) (Steps.refl _) (argsL := [(.int 1), (.int 0)]) (rest := []) (lenOf own_pd12 rfl) rfl (by show 2 * 0 + _ ≤ _; exact Nat.le_of_eq rfl) (hb hby own_d9_252) (fun _ _ => ⟨rfl, e134, (by show k113 + _ ≤ _; rw [y113]; decide), (by show n113 + _ ≤ _; rw [z113]; decide)⟩)
  dsimp only [Pt.U, Pt.locs, Pt.cells, Pt.slots] at X145 l145 y145 z145 st145 hQ145
  have y145 : k145 = 9 := own_addeq y145 (congrArg (fun q => q) y113) rfl
  have z145 : n145 = 86 := own_addeq z145 (congrArg (fun q => q) z113) rfl
  obtain ⟨rfl, N145q, K145q, f146, f147, f148, f149, f150, f151, f152, f153⟩ := hQ145
  have N145 : Fr n0 L145 := by rw [l145]; exact Fr.app N129 N145q
  have z154 := K145q.1
  have K145 : Keep h0 T145.heap [] := K129.trans K145q (allS (Or.inr (by omega)) (allS (Or.inr (by omega)) (allS (Or.inr (by omega)) (allS (Or.inr (by omega)) all0))))
  have z155 := own_lt f146.lt
  have z156 := own_lt f147.lt
  have z157 := own_lt f148.lt
  have z158 := own_lt f149.lt
  have z159 := own_lt f150.lt
  have z160 := own_lt f151.lt
  have z161 := own_lt f152.lt
  have z162 := own_lt f153.lt
  refine own_go (fun _ k => st145.trans k) ?_
  show own_Go _ _ _ _ T145 (mkF m 255 #[.val (.ref a_1), .val (.ref a_2), .val (.int 1), .val (.ref b28), .val (.ref b59), .val (.int 1), .val (.int 0), .val (.int 0), .val (.int 0)] [])
  refine own_go (fun _ k => XS.iinc X145.here hx rfl (hb hby own_d9_255) rfl (l' := #[.val (.ref a_1), .val (.ref a_2), .val (.int 1), .val (.ref b28), .val (.ref b59), .val (.int 1), .val (.int 0), .val (.int 1), .val (.int 0)]) rfl (XS.goto X145.here hx rfl (pc0 := 258) (pc' := 202) rfl (hb hby own_d9_258) (by decide) (by decide) (XS.iload X145.here hx rfl (hb hby own_d9_202) rfl (XS.aloadN X145.here hx rfl (hb hby own_d9_204) rfl rfl k)))) ?_
  show own_Go _ _ _ _ T145 (mkF m 205 #[.val (.ref a_1), .val (.ref a_2), .val (.int 1), .val (.ref b28), .val (.ref b59), .val (.int 1), .val (.int 0), .val (.int 1), .val (.int 0)] [(.ref a_1), (.int 1)])
  have f163 := ((f114.other W129 (Or.inl (own_ne (by omega)))).keep K145q (ninS (own_ne (by omega)) (ninS (own_ne (by omega)) (ninS (own_ne (by omega)) (ninS (own_ne (by omega)) nin0)))))
  obtain ⟨T164, X164, e164, st164⟩ := getF X145 hx hZ hown (host := "") (Or.inl (own_w108 hw)) Via.refl rfl f163 (g := (mkF m 205 #[.val (.ref a_1), .val (.ref a_2), .val (.int 1), .val (.ref b28), .val (.ref b59), .val (.int 1), .val (.int 0), .val (.int 1), .val (.int 0)] [(.ref a_1), (.int 1)])) rfl rfl (hb hby own_d9_205)
  refine own_go (fun _ k => st164 _ k) ?_
  show own_Go _ _ _ _ T164 (mkF m 208 #[.val (.ref a_1), .val (.ref a_2), .val (.int 1), .val (.ref b28), .val (.ref b59), .val (.int 1), .val (.int 0), .val (.int 1), .val (.int 0)] [(.ref ob2), (.int 1)])
  refine own_go (fun _ k => XS.iload X164.here hx rfl (hb hby own_d9_208) rfl (XS.iconst X164.here hx rfl (hb hby own_d9_210) (XS.iadd X164.here hx rfl (hb hby own_d9_211) rfl k))) ?_
  have f165 := ((f116.other W129 (own_ne (by omega))).keep K145q (ninS (own_ne (by omega)) (ninS (own_ne (by omega)) (ninS (own_ne (by omega)) (ninS (own_ne (by omega)) nin0)))))
  obtain ⟨q166, c166, R166, s166, t166⟩ := id f165
  have hin166 : ¬ ((1 : Int32) < 0 ∨ c166.slots.size ≤ ((1 : Int32)).toNatClampNeg) := inb_of s166 ⟨by decide, by decide⟩
  have u166 : c166.slots[((1 : Int32)).toNatClampNeg]? = some (.int 1) := own_at (k := 1) t166 s166 hin166 (by decide) (rfl)
  refine own_go (fun _ k => X164.iaload hx (j := (1 : Int32)) (v := (.int 1)) (by rw [e164]; exact R166.1) (State.isArrayOf_alike hZ.alike R166.2.1) R166.2.2 hin166 u166 (g := (mkF m 212 #[.val (.ref a_1), .val (.ref a_2), .val (.int 1), .val (.ref b28), .val (.ref b59), .val (.int 1), .val (.int 0), .val (.int 1), .val (.int 0)] [(.int 1), (.ref ob2), (.int 1)])) rfl rfl (hb hby own_d9_212) _ k) ?_
  show own_Go _ _ _ _ T164 (mkF m 213 #[.val (.ref a_1), .val (.ref a_2), .val (.int 1), .val (.ref b28), .val (.ref b59), .val (.int 1), .val (.int 0), .val (.int 1), .val (.int 0)] [(.int 1), (.int 1)])
  have hc167 : ¬ ((1 : Int32) < (1 : Int32)) := by decide
  refine own_go (fun _ k => XS.icmpYes X164.here hx rfl (pc0 := 213) (pc' := 261) rfl (hb hby own_d9_213) rfl (Jvm.Free.XT.ii_ge_t hc167) (by decide) (by decide) (XS.goto X164.here hx rfl (pc0 := 261) (pc' := 165) rfl (hb hby own_d9_261) (by decide) (by decide) (XS.aloadN X164.here hx rfl (hb hby own_d9_165) rfl rfl (XS.iloadN X164.here hx rfl (hb hby own_d9_166) rfl k)))) ?_
  show own_Go _ _ _ _ T164 (mkF m 167 #[.val (.ref a_1), .val (.ref a_2), .val (.int 1), .val (.ref b28), .val (.ref b59), .val (.int 1), .val (.int 0), .val (.int 1), .val (.int 0)] [(.int 1), (.ref b28)])
  obtain ⟨cq168, kq168, q168a, q168b, q168c⟩ := isOf hZ e164 f149
  obtain ⟨_, _, ⟨T168, L168, k168, n168⟩, -, X168, ⟨Lc168, hQ168, l168, y168, z168⟩, st168⟩ := X164.virtualBack hx (y := (⟨own_N0, "isTrue", "(I)Z"⟩ : MethodName)) (z := (⟨own_N0, "isTrue", "(I)Z"⟩ : MethodName)) hown (mvT hZ (hw _ (List.mem_of_getElem? (i := 131) rfl))) (mvT hZ (hw _ (List.mem_of_getElem? (i := 132) rfl))) (notFace_of_selects (args := #[]) (mvT hZ (own_w134 hw))) (mvT hZ (own_w134 hw)) (mvT hZ (hw _ (List.mem_of_getElem? (i := 133) rfl))) (by decide) (backOf (W := 0) (own_rm21_s3 l Z a0 hw [] b28 x_35 T145.heap n0 (by omega) f146 f153 (by simp only [own_lts, and_true]; omega)) hZ (hw _ (List.mem_of_getElem? (i := 135) rfl)) (own_w112 hw) (by decide) (by decide)) q168a q168c (g := (mkF m 167 #[.val (.ref a_1), .val (.ref a_2), .val (.int 1), .val (.ref b28), .val (.ref b59), .val (.int 1), .val (.int 0), .val (.int 1), .val (.int 0)] [(.int 1), (.ref b28)])) rfl (by rw [hml]; rfl) (Steps.refl _) (argsL := [(.int 1)]) (rest := []) (lenOf own_pd13 rfl) rfl (by show 2 * 0 + _ ≤ _; exact Nat.le_of_eq rfl) (hb hby own_d9_167) (fun _ _ => ⟨rfl, e164, (by show k145 + _ ≤ _; rw [y145]; decide), (by show n145 + _ ≤ _; rw [z145]; decide)⟩)
  dsimp only [Pt.U, Pt.locs, Pt.cells, Pt.slots] at X168 l168 y168 z168 st168 hQ168
  have y168 : k168 = 9 := own_addeq y168 (congrArg (fun q => q) y145) rfl
  have z168 : n168 = 86 := own_addeq z168 (congrArg (fun q => q) z145) rfl
  obtain ⟨rfl, N168q, e168⟩ := hQ168
  have N168 : Fr n0 L168 := by rw [l168]; exact Fr.app N145 N168q
  refine own_go (fun _ k => st168.trans k) ?_
  show own_Go _ _ _ _ T168 (mkF m 170 #[.val (.ref a_1), .val (.ref a_2), .val (.int 1), .val (.ref b28), .val (.ref b59), .val (.int 1), .val (.int 0), .val (.int 1), .val (.int 0)] [(.int 1)])
  have hc169 : ¬ ((1 : Int32) = 0) := by decide
  refine own_go (fun _ k => XS.ifYes X168.here hx rfl (pc0 := 170) (pc' := 264) rfl (hb hby own_d9_170) rfl (Jvm.Free.XT.i0_ne_t hc169) (by decide) (by decide) (XS.aloadN X168.here hx rfl (hb hby own_d9_264) rfl rfl k)) ?_
  show own_Go _ _ _ _ T168 (mkF m 265 #[.val (.ref a_1), .val (.ref a_2), .val (.int 1), .val (.ref b28), .val (.ref b59), .val (.int 1), .val (.int 0), .val (.int 1), .val (.int 0)] [(.ref b28)])
  obtain ⟨fs, hr, hrun, hended, hRW⟩ := X168.leaveW hS21 (by rw [e168]; omega) (v := some (.ref b28)) (fun h => by rw [Bd.returns] at h; cases h)
  refine ⟨_, _, retOut X168 hx Bd.returns rfl (Or.inr (Or.inr (Or.inr (Or.inr ⟨rfl, rfl, rfl⟩)))) (hb hby own_d9_265) hr, hrun, hended, _, _, rfl, ?_, own_monoW hRW (by rw [y168]; decide) (by rw [z168]; decide)⟩
  show own_Q9_s2 Z a_1 a_2 ob1 ob0 ob2 ob3 h0 n0 _ T168.heap _
  rw [e168]
  exact ⟨b28, x_33, x_34, x_35, rfl, N168, K145, f149, f150, f151, f152, f153, f148, f147, f146, (by omega), (by omega), (by omega), (by omega), (by simp only [own_lts, and_true]; omega)⟩
theorem own_ef_own_rm8_s2 (m : MethodId) (x0 : Addr) (x1 : Addr) : entryFrame m #[(.ref x0), (.ref x1), (.int 1)] 3 = mkF m 0 #[.val (.ref x0), .val (.ref x1), .val (.int 1)] [] := by first | (simp [entryFrame, mkF, argsToLocals, Value.category]; done) | rfl
def own_Q8_s2 (Z : State) (a_1 : Addr) (a_2 : Addr) (ob1 : Addr) (ob0 : Addr) (ob2 : Addr) (ob3 : Addr) (h0 : Heap) (n0 : Nat) (v : Option Value) (h : Heap) (L : List Loc) : Prop := v = some (.int 1) ∧ Fr n0 L ∧ Keep h0 h []
set_option maxRecDepth 65536 in
set_option maxHeartbeats 40000000 in
theorem own_rm8_s2 (l : Launch) (Z : State) (a0 : Array Value) (hw : ∀ d ∈ tables_1, d.before a0 Z = true) (ws : List Jvm.Cond) (a_1 : Addr) (a_2 : Addr) (ob1 : Addr) (ob0 : Addr) (ob2 : Addr) (ob3 : Addr) (h0 : Heap) (n0 : Nat) (Z0 : n0 ≤ h0.size) (pr_A_a_2 : own_AV Z h0 a_2 .int 1 (own_upd (fun _ => (.int 0)) 0 (.int 0))) (pr_A_ob0 : own_AV Z h0 ob0 .int 64 (own_upd (fun _ => (.int 0)) 0 (.int 1))) (pr_A_ob1 : own_AV Z h0 ob1 .int 65 (own_upd (fun _ => (.int 0)) 1 (.int 1))) (pr_A_ob2 : own_AV Z h0 ob2 .int 4 (own_upd (own_upd (own_upd (own_upd (fun _ => (.int 0)) 1 (.int 1)) 1 (.int 1)) 2 (.int 1)) 3 (.int 1))) (pr_A_ob3 : own_AV Z h0 ob3 .int 1 (own_upd (fun _ => (.int 0)) 0 (.int 0))) (pr_E_a_1 : Exa Z h0 a_1 own_N1) (pr_F_a_1_bodyStarts : Fld Z h0 a_1 own_N1 "bodyStarts" "[I" (.ref ob1)) (pr_F_a_1_clauseCount : Fld Z h0 a_1 own_N1 "clauseCount" "I" (.int 1)) (pr_F_a_1_heads : Fld Z h0 a_1 own_N1 "heads" "[I" (.ref ob0)) (pr_F_a_1_occurrenceStarts : Fld Z h0 a_1 own_N1 "occurrenceStarts" "[I" (.ref ob2)) (pr_F_a_1_occurrences : Fld Z h0 a_1 own_N1 "occurrences" "[I" (.ref ob3)) (pr_F_a_1_variableCount : Fld Z h0 a_1 own_N1 "variableCount" "I" (.int 3)) (ho_ : own_lts [a_1, ob0, ob1, ob2, ob3, a_2]) :
    MetFree l (⟨own_N1, "implies", "([II)Z"⟩ : MethodName) (head1 (Jvm.Cond.code (⟨own_N1, "implies", "([II)Z"⟩ : MethodName) prog_6_method_8_code 3 (some .boolean) :: ws) ({ frames := 3, cells := 9, slots := 86, locals := 47 } : Room)) (fun a U => a = #[(.ref a_1), (.ref a_2), (.int 1)] ∧ Z.Warmed39 U.vm ∧ U.heap = h0) (fun _ _ _ _ _ => True) (fun _ U o U' => ∃ v L, o = .returned v ∧ own_Q8_s2 Z a_1 a_2 ob1 ob0 ob2 ob3 h0 n0 v U'.heap L ∧ ReturnedEndW U o U' L ({ frames := 3, cells := 9, slots := 86, locals := 47 } : Room).cells ({ frames := 3, cells := 9, slots := 86, locals := 47 } : Room).slots) := by
  refine MetFree.of_bodySF (plainFor_of_name own_pn0) hisR ?_
  intro p e s m args below meth c s₁ Bd hml0 hP hK
  obtain ⟨rfl, hZ, hh⟩ := hP
  have hx := Bd.exec
  have hby := Bd.bytes
  have hml : c.maxLocals = 3 := hml0
  have hown : s.vm.findClass own_N1 = some m.cls := findClass_of_methodNamed Bd.named
  have hnm := (name_of_methodNamed Bd.named Bd.method).1
  have X0 : Stand p l e ({ frames := 3, cells := 9, slots := 86, locals := 47 } : Room) s m #[(.ref a_1), (.ref a_2), (.int 1)] below meth c s₁ [] 0 0 := Stand.of_body Bd
  have e0 : s₁.heap = h0 := by rw [← hh, Bd.state]; rfl
  have N0 := Fr.nil n0
  have X0 : Stand p l e ({ frames := 3, cells := 9, slots := 86, locals := 47 } : Room) (s.setVm s.vm) m #[(.ref a_1), (.ref a_2), (.int 1)] below meth c s₁ [] 0 0 := X0
  have hZ : Z.Warmed39 (s.setVm s.vm).vm := hZ
  have hown : (s.setVm s.vm).vm.findClass own_N1 = some m.cls := hown
  have hS0 : s.Since s.vm 0 := (State.WarmedH.refl s).since 0
  have z0 : n0 ≤ h0.size := Z0
  have z1 := own_lt pr_A_a_2.lt
  have z2 := own_lt pr_A_ob0.lt
  have z3 := own_lt pr_A_ob1.lt
  have z4 := own_lt pr_A_ob2.lt
  have z5 := own_lt pr_A_ob3.lt
  have z6 := own_lt pr_E_a_1.lt
  have z7 := own_lt pr_F_a_1_bodyStarts.lt
  have z8 := own_lt pr_F_a_1_clauseCount.lt
  have z9 := own_lt pr_F_a_1_heads.lt
  have z10 := own_lt pr_F_a_1_occurrenceStarts.lt
  have z11 := own_lt pr_F_a_1_occurrences.lt
  have z12 := own_lt pr_F_a_1_variableCount.lt
  have ho13 := ho_
  simp only [own_lts, and_true] at ho13
  have K0 : Keep h0 h0 [] := Keep.refl h0 _
  show own_Go p.tables e below (fun t o => t.status = .running ∧ Ended t below o ∧ ∃ v L, o = .returned v ∧ own_Q8_s2 Z a_1 a_2 ob1 ob0 ob2 ob3 h0 n0 v t.heap L ∧ ReturnedEndW s o t L ({ frames := 3, cells := 9, slots := 86, locals := 47 } : Room).cells ({ frames := 3, cells := 9, slots := 86, locals := 47 } : Room).slots) s₁ (entryFrame m #[(.ref a_1), (.ref a_2), (.int 1)] 3)
  rw [own_ef_own_rm8_s2 m a_1 a_2]
  show own_Go _ _ _ _ s₁ (mkF m 0 #[.val (.ref a_1), .val (.ref a_2), .val (.int 1)] [])
  refine own_go (fun _ k => XS.aloadN X0.here hx rfl (hb hby own_d8_0) rfl rfl (XS.aloadN X0.here hx rfl (hb hby own_d8_1) rfl rfl (XS.iloadN X0.here hx rfl (hb hby own_d8_2) rfl k))) ?_
  obtain ⟨cq14, q14, q14'⟩ := (id pr_E_a_1).cell
  obtain ⟨_, _, ⟨T14, L14, k14, n14⟩, -, X14, hS14, gr14, ⟨Lc14, hQ14, l14, y14, z14⟩, st14⟩ := X0.privateBackS hx (y := (⟨own_N1, "propagate", "([II)Lcom/example/kalchas/kalchas/propositional/HornClauses$Trail;"⟩ : MethodName)) hown (mvT hZ (hw _ (List.mem_of_getElem? (i := 62) rfl))) (mvT hZ (hw _ (List.mem_of_getElem? (i := 63) rfl))) (own_selfsel hZ (own_w1 hw) (hw _ (List.mem_of_getElem? (i := 63) rfl)) (hw _ (List.mem_of_getElem? (i := 64) rfl)) (by decide)) (Cond.privateMethod_at (mvP hZ (hw _ (List.mem_of_getElem? (i := 64) rfl)) (args := #[]))) (mvT hZ (hw _ (List.mem_of_getElem? (i := 65) rfl))) (by decide) (backOfS (W := 0) (own_rm9_s2 l Z a0 hw [] a_1 a_2 ob1 ob0 ob2 ob3 h0 n0 (by omega) pr_A_a_2 pr_A_ob0 pr_A_ob1 pr_A_ob2 pr_A_ob3 pr_E_a_1 pr_F_a_1_bodyStarts pr_F_a_1_clauseCount pr_F_a_1_heads pr_F_a_1_occurrenceStarts pr_F_a_1_occurrences pr_F_a_1_variableCount (by simp only [own_lts, and_true]; omega)) hZ (hw _ (List.mem_of_getElem? (i := 65) rfl)) (own_w2 hw) (by decide) (by decide)) (g := (mkF m 3 #[.val (.ref a_1), .val (.ref a_2), .val (.int 1)] [(.int 1), (.ref a_2), (.ref a_1)])) rfl (by rw [hml]; rfl) (Steps.refl _) (a := a_1) (by rw [e0]; exact q14) q14' (argsL := [(.ref a_2), (.int 1)]) (rest := []) (lenOf own_pd15 rfl) rfl (by show 2 * 0 + _ ≤ _; exact Nat.le_of_eq rfl) (hb hby own_d8_3) (fun _ _ => ⟨rfl, e0, (by decide : 0 + 9 ≤ _), (by decide : 0 + 86 ≤ _)⟩)
  dsimp only [Pt.U, Pt.locs, Pt.cells, Pt.slots] at X14 l14 y14 z14 st14 hQ14 hS14 gr14
  have y14 : k14 = 9 := y14
  have z14 : n14 = 86 := z14
  have Wn14 := hS14.1
  obtain ⟨X14, hS14, hZ, hown⟩ := rebS hS0 (n1 := s₁.heap.size) (by rw [e0]; omega) X14 hS14 gr14 hZ hown
  obtain ⟨x_15, x_16, x_17, x_18, rfl, N14q, K14q, f19, f20, f21, f22, f23, f24, f25, f26, f27, f28, f29, f30, f31⟩ := hQ14
  have N14 : Fr n0 L14 := by rw [l14]; exact Fr.app N0 N14q
  have z32 := K14q.1
  have K14 : Keep h0 T14.heap [] := K0.trans K14q all0
  have z33 := own_lt f19.lt
  have z34 := own_lt f20.lt
  have z35 := own_lt f21.lt
  have z36 := own_lt f22.lt
  have z37 := own_lt f23.lt
  have z38 := own_lt f24.lt
  have z39 := own_lt f25.lt
  have z40 := own_lt f26.lt
  simp only [own_lts, and_true] at f31
  refine own_go (fun _ k => st14.trans k) ?_
  show own_Go _ _ _ _ T14 (mkF m 6 #[.val (.ref a_1), .val (.ref a_2), .val (.int 1)] [(.ref x_15)])
  refine own_go (fun _ k => XS.iloadN X14.here hx rfl (hb hby own_d8_6) rfl k) ?_
  obtain ⟨cq41, kq41, q41a, q41b, q41c⟩ := isOf hZ rfl f19
  obtain ⟨_, _, ⟨T41, L41, k41, n41⟩, -, X41, ⟨Lc41, hQ41, l41, y41, z41⟩, st41⟩ := X14.virtualBack hx (y := (⟨own_N0, "isTrue", "(I)Z"⟩ : MethodName)) (z := (⟨own_N0, "isTrue", "(I)Z"⟩ : MethodName)) hown (mvT hZ (hw _ (List.mem_of_getElem? (i := 131) rfl))) (mvT hZ (hw _ (List.mem_of_getElem? (i := 132) rfl))) (notFace_of_selects (args := #[]) (mvT hZ (own_w134 hw))) (mvT hZ (own_w134 hw)) (mvT hZ (hw _ (List.mem_of_getElem? (i := 133) rfl))) (by decide) (backOf (W := 0) (own_rm21_s3 l Z a0 hw [] x_15 x_18 T14.heap n0 (by omega) f26 f23 (by simp only [own_lts, and_true]; omega)) hZ (hw _ (List.mem_of_getElem? (i := 135) rfl)) (own_w112 hw) (by decide) (by decide)) q41a q41c (g := (mkF m 7 #[.val (.ref a_1), .val (.ref a_2), .val (.int 1)] [(.int 1), (.ref x_15)])) rfl (by rw [hml]; rfl) (Steps.refl _) (argsL := [(.int 1)]) (rest := []) (lenOf own_pd13 rfl) rfl (by show 2 * 0 + _ ≤ _; exact Nat.le_of_eq rfl) (hb hby own_d8_7) (fun _ _ => ⟨rfl, rfl, (by show k14 + _ ≤ _; rw [y14]; decide), (by show n14 + _ ≤ _; rw [z14]; decide)⟩)
  dsimp only [Pt.U, Pt.locs, Pt.cells, Pt.slots] at X41 l41 y41 z41 st41 hQ41
  have y41 : k41 = 9 := own_addeq y41 (congrArg (fun q => q) y14) rfl
  have z41 : n41 = 86 := own_addeq z41 (congrArg (fun q => q) z14) rfl
  obtain ⟨rfl, N41q, e41⟩ := hQ41
  have N41 : Fr n0 L41 := by rw [l41]; exact Fr.app N14 N41q
  refine own_go (fun _ k => st41.trans k) ?_
  show own_Go _ _ _ _ T41 (mkF m 10 #[.val (.ref a_1), .val (.ref a_2), .val (.int 1)] [(.int 1)])
  obtain ⟨fs, hr, hrun, hended, hRW⟩ := X41.leaveW hS14 (by rw [e41]; omega) (v := some (.int 1)) (fun h => by rw [Bd.returns] at h; cases h)
  refine ⟨_, _, retOut X41 hx Bd.returns rfl (Or.inl ⟨rfl, Or.inr (Or.inl rfl), _, rfl⟩) (hb hby own_d8_10) hr, hrun, hended, _, _, rfl, ?_, own_monoW hRW (by rw [y41]; decide) (by rw [z41]; decide)⟩
  show own_Q8_s2 Z a_1 a_2 ob1 ob0 ob2 ob3 h0 n0 _ T41.heap _
  rw [e41]
  exact ⟨rfl, N41, K14⟩
theorem own_ef_own_rm18_s2 (m : MethodId)  : entryFrame m #[(.int 3), (.int 2)] 2 = mkF m 0 #[.val (.int 3), .val (.int 2)] [] := by first | (simp [entryFrame, mkF, argsToLocals, Value.category]; done) | rfl
def own_Q18_s2 (Z : State)  (h0 : Heap) (n0 : Nat) (v : Option Value) (h : Heap) (L : List Loc) : Prop := v = some (.int 2) ∧ Fr n0 L ∧ h = h0
set_option maxRecDepth 65536 in
set_option maxHeartbeats 40000000 in
theorem own_rm18_s2 (l : Launch) (Z : State) (a0 : Array Value) (hw : ∀ d ∈ tables_1, d.before a0 Z = true) (ws : List Jvm.Cond)  (h0 : Heap) (n0 : Nat) (Z0 : n0 ≤ h0.size) :
    MetFree l (⟨"java/lang/Math", "min", "(II)I"⟩ : MethodName) (head1 (Jvm.Cond.code (⟨"java/lang/Math", "min", "(II)I"⟩ : MethodName) jdk_29_method_69_code 2 (some .int) :: ws) ({ frames := 0, cells := 0, slots := 0, locals := 0 } : Room)) (fun a U => a = #[(.int 3), (.int 2)] ∧ Z.Warmed39 U.vm ∧ U.heap = h0) (fun _ _ _ _ _ => True) (fun _ U o U' => ∃ v L, o = .returned v ∧ own_Q18_s2 Z  h0 n0 v U'.heap L ∧ FrameEnd U o U' L ({ frames := 0, cells := 0, slots := 0, locals := 0 } : Room).cells ({ frames := 0, cells := 0, slots := 0, locals := 0 } : Room).slots) := by
  refine MetFree.of_bodySF (Jvm.Free.JP.mathPlain rfl (by decide +kernel)) hisR ?_
  intro p e s m args below meth c s₁ Bd hml0 hP hK
  obtain ⟨rfl, hZ, hh⟩ := hP
  have hx := Bd.exec
  have hby := Bd.bytes
  have hml : c.maxLocals = 2 := hml0
  have hown : s.vm.findClass "java/lang/Math" = some m.cls := findClass_of_methodNamed Bd.named
  have hnm := (name_of_methodNamed Bd.named Bd.method).1
  have X0 : Stand p l e ({ frames := 0, cells := 0, slots := 0, locals := 0 } : Room) s m #[(.int 3), (.int 2)] below meth c s₁ [] 0 0 := Stand.of_body Bd
  have e0 : s₁.heap = h0 := by rw [← hh, Bd.state]; rfl
  have N0 := Fr.nil n0
  have z0 : n0 ≤ h0.size := Z0
  show own_Go p.tables e below (fun t o => t.status = .running ∧ Ended t below o ∧ ∃ v L, o = .returned v ∧ own_Q18_s2 Z  h0 n0 v t.heap L ∧ FrameEnd s o t L ({ frames := 0, cells := 0, slots := 0, locals := 0 } : Room).cells ({ frames := 0, cells := 0, slots := 0, locals := 0 } : Room).slots) s₁ (entryFrame m #[(.int 3), (.int 2)] 2)
  rw [own_ef_own_rm18_s2 m ]
  show own_Go _ _ _ _ s₁ (mkF m 0 #[.val (.int 3), .val (.int 2)] [])
  refine own_go (fun _ k => XS.iloadN X0.here hx rfl (hb hby own_d18_0) rfl (XS.iloadN X0.here hx rfl (hb hby own_d18_1) rfl k)) ?_
  have hc1 : (2 : Int32) < (3 : Int32) := by decide
  refine own_go (fun _ k => XS.icmpYes X0.here hx rfl (pc0 := 2) (pc' := 9) rfl (hb hby own_d18_2) rfl (Jvm.Free.XT.ii_gt_t hc1) (by decide) (by decide) (XS.iloadN X0.here hx rfl (hb hby own_d18_9) rfl k)) ?_
  show own_Go _ _ _ _ s₁ (mkF m 10 #[.val (.int 3), .val (.int 2)] [(.int 2)])
  obtain ⟨fs, hr, hrun, hended, hW, hsame⟩ := X0.leave (v := some (.int 2)) (fun h => by rw [Bd.returns] at h; cases h)
  refine ⟨_, _, retOut X0 hx Bd.returns rfl (Or.inl ⟨rfl, Or.inl rfl, _, rfl⟩) (hb hby own_d18_10) hr, hrun, hended, _, _, rfl, ?_, ⟨_, rfl⟩, hW, hsame.mono (by decide) (by decide)⟩
  show own_Q18_s2 Z  h0 n0 _ s₁.heap _
  rw [e0]
  exact ⟨rfl, N0, rfl⟩
theorem own_ef_own_rm17_s3 (m : MethodId) (x0 : Addr) : entryFrame m #[(.ref x0), (.int 2)] 3 = mkF m 0 #[.val (.ref x0), .val (.int 2), .unset] [] := by first | (simp [entryFrame, mkF, argsToLocals, Value.category]; done) | rfl
def own_Q17_s3 (Z : State) (a_1 : Addr) (h0 : Heap) (n0 : Nat) (v : Option Value) (h : Heap) (L : List Loc) : Prop := ∃ (x_0 : Addr), v = some (.ref x_0) ∧ Fr n0 L ∧ Keep h0 h [] ∧ own_AV Z h x_0 .int 2 (own_upd (own_upd (fun _ => (.int 0)) 0 (.int 0)) 1 (.int 1)) ∧ (h0.size ≤ x_0)
set_option maxRecDepth 65536 in
set_option maxHeartbeats 40000000 in
theorem own_rm17_s3 (l : Launch) (Z : State) (a0 : Array Value) (hw : ∀ d ∈ tables_1, d.before a0 Z = true) (ws : List Jvm.Cond) (a_1 : Addr) (h0 : Heap) (n0 : Nat) (Z0 : n0 ≤ h0.size) (pr_A_a_1 : own_AV Z h0 a_1 .int 3 (own_upd (own_upd (own_upd (fun _ => (.int 0)) 1 (.int 1)) 1 (.int 1)) 2 (.int 1))) :
    MetFree l (⟨"java/util/Arrays", "copyOf", "([II)[I"⟩ : MethodName) (head1 (Jvm.Cond.code (⟨"java/util/Arrays", "copyOf", "([II)[I"⟩ : MethodName) jdk_65_method_123_code 3 (some (.array .int)) :: ws) ({ frames := 1, cells := 1, slots := 2, locals := 40 } : Room)) (fun a U => a = #[(.ref a_1), (.int 2)] ∧ Z.Warmed39 U.vm ∧ U.heap = h0) (fun _ _ _ _ _ => True) (fun _ U o U' => ∃ v L, o = .returned v ∧ own_Q17_s3 Z a_1 h0 n0 v U'.heap L ∧ FrameEnd U o U' L ({ frames := 1, cells := 1, slots := 2, locals := 40 } : Room).cells ({ frames := 1, cells := 1, slots := 2, locals := 40 } : Room).slots) := by
  refine MetFree.of_bodySF (plainFor_of_name own_pn1) hisR ?_
  intro p e s m args below meth c s₁ Bd hml0 hP hK
  obtain ⟨rfl, hZ, hh⟩ := hP
  have hx := Bd.exec
  have hby := Bd.bytes
  have hml : c.maxLocals = 3 := hml0
  have hown : s.vm.findClass "java/util/Arrays" = some m.cls := findClass_of_methodNamed Bd.named
  have hnm := (name_of_methodNamed Bd.named Bd.method).1
  have X0 : Stand p l e ({ frames := 1, cells := 1, slots := 2, locals := 40 } : Room) s m #[(.ref a_1), (.int 2)] below meth c s₁ [] 0 0 := Stand.of_body Bd
  have e0 : s₁.heap = h0 := by rw [← hh, Bd.state]; rfl
  have N0 := Fr.nil n0
  have z0 : n0 ≤ h0.size := Z0
  have z1 := own_lt pr_A_a_1.lt
  have K0 : Keep h0 h0 [] := Keep.refl h0 _
  show own_Go p.tables e below (fun t o => t.status = .running ∧ Ended t below o ∧ ∃ v L, o = .returned v ∧ own_Q17_s3 Z a_1 h0 n0 v t.heap L ∧ FrameEnd s o t L ({ frames := 1, cells := 1, slots := 2, locals := 40 } : Room).cells ({ frames := 1, cells := 1, slots := 2, locals := 40 } : Room).slots) s₁ (entryFrame m #[(.ref a_1), (.int 2)] 3)
  rw [own_ef_own_rm17_s3 m a_1]
  show own_Go _ _ _ _ s₁ (mkF m 0 #[.val (.ref a_1), .val (.int 2), .unset] [])
  refine own_go (fun _ k => XS.iloadN X0.here hx rfl (hb hby own_d17_0) rfl (XS.aloadN X0.here hx rfl (hb hby own_d17_1) rfl rfl k)) ?_
  obtain ⟨q2, c2, R2, s2, t2⟩ := id pr_A_a_1
  refine own_go (fun _ k => X0.arraylength hx (by rw [e0]; exact R2.1) (State.isArrayOf_alike hZ.alike R2.2.1) (g := (mkF m 2 #[.val (.ref a_1), .val (.int 2), .unset] [(.ref a_1), (.int 2)])) rfl rfl (hb hby own_d17_2) _ k) ?_
  rw [len_of s2 q2]
  show own_Go _ _ _ _ s₁ (mkF m 3 #[.val (.ref a_1), .val (.int 2), .unset] [(.int 3), (.int 2)])
  have hc3 : ¬ ((2 : Int32) = (3 : Int32)) := by decide
  refine own_go (fun _ k => XS.icmpYes X0.here hx rfl (pc0 := 3) (pc' := 14) rfl (hb hby own_d17_3) rfl (Jvm.Free.XT.ii_ne_t hc3) (by decide) (by decide) (XS.iloadN X0.here hx rfl (hb hby own_d17_14) rfl k)) ?_
  obtain ⟨T4, h4, k4, X4, e4, E4, A4, st4⟩ := newP X0 hx hZ (hw _ (List.mem_of_getElem? (i := 9) rfl)) e0 (g := (mkF m 15 #[.val (.ref a_1), .val (.int 2), .unset] [(.int 2)])) rfl (hb hby own_d17_15) rfl (by decide) (cap := 2) (by decide) (by decide) (by decide) (by decide)
  obtain ⟨b4, g4⟩ : ∃ z, z = h0.size := ⟨_, rfl⟩
  rw [← g4] at A4 st4
  have z5 := E4.1
  have lt_b4 := own_lt A4.lt
  have K4 : Keep h0 h4 [] := K0.ext E4
  have V_b4 : own_AV Z h4 b4 .int 2 (fun _ => (.int 0)) := own_AV.new A4 (by decide)
  refine own_go (fun _ k => st4 _ k) ?_
  show own_Go _ _ _ _ T4 (mkF m 17 #[.val (.ref a_1), .val (.int 2), .unset] [(.ref b4)])
  refine own_go (fun _ k => XS.astoreN X4.here hx rfl (hb hby own_d17_17) rfl rfl (l' := #[.val (.ref a_1), .val (.int 2), .val (.ref b4)]) rfl (XS.aloadN X4.here hx rfl (hb hby own_d17_18) rfl rfl (XS.iconst X4.here hx rfl (hb hby own_d17_19) (XS.aloadN X4.here hx rfl (hb hby own_d17_20) rfl rfl k)))) ?_
  show own_Go _ _ _ _ T4 (mkF m 21 #[.val (.ref a_1), .val (.int 2), .val (.ref b4)] [(.ref b4), (.int 0), (.ref a_1)])
  refine own_go (fun _ k => XS.iconst X4.here hx rfl (hb hby own_d17_21) (XS.aloadN X4.here hx rfl (hb hby own_d17_22) rfl rfl k)) ?_
  have f6 := (pr_A_a_1.ext E4)
  obtain ⟨q7, c7, R7, s7, t7⟩ := id f6
  refine own_go (fun _ k => X4.arraylength hx (by rw [e4]; exact R7.1) (State.isArrayOf_alike hZ.alike R7.2.1) (g := (mkF m 23 #[.val (.ref a_1), .val (.int 2), .val (.ref b4)] [(.ref a_1), (.int 0), (.ref b4), (.int 0), (.ref a_1)])) rfl rfl (hb hby own_d17_23) _ k) ?_
  rw [len_of s7 q7]
  show own_Go _ _ _ _ T4 (mkF m 24 #[.val (.ref a_1), .val (.int 2), .val (.ref b4)] [(.int 3), (.int 0), (.ref b4), (.int 0), (.ref a_1)])
  refine own_go (fun _ k => XS.iloadN X4.here hx rfl (hb hby own_d17_24) rfl k) ?_
  obtain ⟨_, _, ⟨T8, L8, k8, n8⟩, -, X8, ⟨Lc8, hQ8, l8, y8, z8⟩, st8⟩ := Jvm.LawKit.callS X4 hx (y := (⟨"java/lang/Math", "min", "(II)I"⟩ : MethodName)) hown (mvT hZ (hw _ (List.mem_of_getElem? (i := 99) rfl))) (mvT hZ (hw _ (List.mem_of_getElem? (i := 100) rfl))) (mvT hZ (own_w101 hw)) (mvT hZ (hw _ (List.mem_of_getElem? (i := 102) rfl))) (by decide) (backOf (W := 4) (own_rm18_s2 l Z a0 hw []   h4 n0 (by omega) ) hZ (hw _ (List.mem_of_getElem? (i := 102) rfl)) (own_w101 hw) (by decide) (by decide)) (g := (mkF m 25 #[.val (.ref a_1), .val (.int 2), .val (.ref b4)] [(.int 2), (.int 3), (.int 0), (.ref b4), (.int 0), (.ref a_1)])) rfl (by rw [hml]; rfl) (argsL := [(.int 3), (.int 2)]) (rest := [(.int 0), (.ref b4), (.int 0), (.ref a_1)]) (lenOf own_pd9 rfl) rfl (by show 2 * 0 + _ ≤ _; exact Nat.le_of_eq rfl) (hb hby own_d17_25) (fun _ _ => ⟨rfl, e4, (by decide : 1 + 0 ≤ _), (by decide : 2 + 0 ≤ _)⟩)
  dsimp only [Pt.U, Pt.locs, Pt.cells, Pt.slots] at X8 l8 y8 z8 st8 hQ8
  have y8 : k8 = 1 := y8
  have z8 : n8 = 2 := z8
  obtain ⟨rfl, N8q, e8⟩ := hQ8
  have N8 : Fr n0 L8 := by rw [l8]; exact Fr.app N0 N8q
  refine own_go (fun _ k => st8 _ k) ?_
  show own_Go _ _ _ _ T8 (mkF m 28 #[.val (.ref a_1), .val (.int 2), .val (.ref b4)] [(.int 2), (.int 0), (.ref b4), (.int 0), (.ref a_1)])
  obtain ⟨T9, h9, L9, X9, e9, N9, Kq9, V9, st9⟩ := own_cp X8 hx hZ hown (hw _ (List.mem_of_getElem? (i := 103) rfl)) (hw _ (List.mem_of_getElem? (i := 51) rfl)) (hw _ (List.mem_of_getElem? (i := 49) rfl)) (hw _ (List.mem_of_getElem? (i := 50) rfl)) e8 f6 V_b4 (own_updf (own_updf (own_updf (fun _ => rfl) rfl) rfl) rfl) (fun _ => rfl) (by decide) (by decide) (by decide) (by decide) (by decide) N8 (by omega) (g := (mkF m 28 #[.val (.ref a_1), .val (.int 2), .val (.ref b4)] [(.int 2), (.int 0), (.ref b4), (.int 0), (.ref a_1)])) rfl (by rw [hml]; rfl) rfl (hb hby own_d17_28) (by decide) (W := 0) (by show 2 * 0 + _ ≤ _; exact Nat.le_of_eq rfl) (by decide)
  have z10 := Kq9.1
  have K9 : Keep h0 h9 [] := K4.trans Kq9 (allS (Or.inr (by omega)) all0)
  have V9 : own_AV Z h9 b4 .int 2 (own_upd (own_upd (fun _ => (.int 0)) 0 (.int 0)) 1 (.int 1)) := own_AV.congr V9 (fun i _ => congrFun (own_cpf2) i)
  refine own_go (fun _ k => st9 _ k) ?_
  show own_Go _ _ _ _ T9 (mkF m 31 #[.val (.ref a_1), .val (.int 2), .val (.ref b4)] [])
  refine own_go (fun _ k => XS.aloadN X9.here hx rfl (hb hby own_d17_31) rfl rfl k) ?_
  show own_Go _ _ _ _ T9 (mkF m 32 #[.val (.ref a_1), .val (.int 2), .val (.ref b4)] [(.ref b4)])
  obtain ⟨fs, hr, hrun, hended, hW, hsame⟩ := X9.leave (v := some (.ref b4)) (fun h => by rw [Bd.returns] at h; cases h)
  refine ⟨_, _, retOut X9 hx Bd.returns rfl (Or.inr (Or.inr (Or.inr (Or.inr ⟨rfl, rfl, rfl⟩)))) (hb hby own_d17_32) hr, hrun, hended, _, _, rfl, ?_, ⟨_, rfl⟩, hW, hsame.mono (by rw [y8]; decide) (by rw [z8]; decide)⟩
  show own_Q17_s3 Z a_1 h0 n0 _ T9.heap _
  rw [e9]
  exact ⟨b4, rfl, N9, K9, V9, (by omega)⟩
theorem own_ef_own_rm16_s3 (m : MethodId) (x0 : Addr) (x1 : Addr) (x2 : Addr) (x4 : Addr) : entryFrame m #[(.ref x0), (.ref x1), (.ref x2), (.int 1), (.ref x4)] 8 = mkF m 0 #[.val (.ref x0), .val (.ref x1), .val (.ref x2), .val (.int 1), .val (.ref x4), .unset, .unset, .unset] [] := by first | (simp [entryFrame, mkF, argsToLocals, Value.category]; done) | rfl
def own_Q16_s3 (Z : State) (a_1 : Addr) (a_2 : Addr) (a_3 : Addr) (a_5 : Addr) (h0 : Heap) (n0 : Nat) (v : Option Value) (h : Heap) (L : List Loc) : Prop := ∃ (x_0 : Addr), v = some (.ref x_0) ∧ Fr n0 L ∧ Keep h0 h [a_5] ∧ own_AV Z h a_5 .int 3 (own_upd (own_upd (own_upd (fun _ => (.int 0)) 1 (.int 1)) 1 (.int 1)) 2 (.int 1)) ∧ own_AV Z h x_0 .int 1 (own_upd (fun _ => (.int 0)) 0 (.int 0)) ∧ (h0.size ≤ x_0)
set_option maxRecDepth 65536 in
set_option maxHeartbeats 40000000 in
theorem own_rm16_s3 (l : Launch) (Z : State) (a0 : Array Value) (hw : ∀ d ∈ tables_1, d.before a0 Z = true) (ws : List Jvm.Cond) (a_1 : Addr) (a_2 : Addr) (a_3 : Addr) (a_5 : Addr) (h0 : Heap) (n0 : Nat) (Z0 : n0 ≤ h0.size) (pr_A_a_2 : own_AV Z h0 a_2 .int 64 (own_upd (fun _ => (.int 0)) 0 (.int 0))) (pr_A_a_3 : own_AV Z h0 a_3 .int 1 (own_upd (fun _ => (.int 0)) 0 (.int 0))) (pr_A_a_5 : own_AV Z h0 a_5 .int 3 (fun _ => (.int 0))) (pr_F_a_1_variableCount : Fld Z h0 a_1 own_N1 "variableCount" "I" (.int 2)) (ho_ : own_lts [a_1, a_2, a_3, a_5]) (gw_a_5 : n0 ≤ a_5) :
    MetFree l (⟨own_N1, "groupByVariable", "([I[II[I)[I"⟩ : MethodName) (head1 (Jvm.Cond.code (⟨own_N1, "groupByVariable", "([I[II[I)[I"⟩ : MethodName) prog_6_method_18_code 8 (some (.array .int)) :: ws) ({ frames := 2, cells := 2, slots := 3, locals := 54 } : Room)) (fun a U => a = #[(.ref a_1), (.ref a_2), (.ref a_3), (.int 1), (.ref a_5)] ∧ Z.Warmed39 U.vm ∧ U.heap = h0) (fun _ _ _ _ _ => True) (fun _ U o U' => ∃ v L, o = .returned v ∧ own_Q16_s3 Z a_1 a_2 a_3 a_5 h0 n0 v U'.heap L ∧ FrameEnd U o U' L ({ frames := 2, cells := 2, slots := 3, locals := 54 } : Room).cells ({ frames := 2, cells := 2, slots := 3, locals := 54 } : Room).slots) := by
  refine MetFree.of_bodySF (plainFor_of_name own_pn0) hisR ?_
  intro p e s m args below meth c s₁ Bd hml0 hP hK
  obtain ⟨rfl, hZ, hh⟩ := hP
  have hx := Bd.exec
  have hby := Bd.bytes
  have hml : c.maxLocals = 8 := hml0
  have hown : s.vm.findClass own_N1 = some m.cls := findClass_of_methodNamed Bd.named
  have hnm := (name_of_methodNamed Bd.named Bd.method).1
  have X0 : Stand p l e ({ frames := 2, cells := 2, slots := 3, locals := 54 } : Room) s m #[(.ref a_1), (.ref a_2), (.ref a_3), (.int 1), (.ref a_5)] below meth c s₁ [] 0 0 := Stand.of_body Bd
  have e0 : s₁.heap = h0 := by rw [← hh, Bd.state]; rfl
  have N0 := Fr.nil n0
  have z0 : n0 ≤ h0.size := Z0
  have z1 := own_lt pr_A_a_2.lt
  have z2 := own_lt pr_A_a_3.lt
  have z3 := own_lt pr_A_a_5.lt
  have z4 := own_lt pr_F_a_1_variableCount.lt
  have ho5 := ho_
  simp only [own_lts, and_true] at ho5
  have K0 : Keep h0 h0 [a_5] := Keep.refl h0 _
  show own_Go p.tables e below (fun t o => t.status = .running ∧ Ended t below o ∧ ∃ v L, o = .returned v ∧ own_Q16_s3 Z a_1 a_2 a_3 a_5 h0 n0 v t.heap L ∧ FrameEnd s o t L ({ frames := 2, cells := 2, slots := 3, locals := 54 } : Room).cells ({ frames := 2, cells := 2, slots := 3, locals := 54 } : Room).slots) s₁ (entryFrame m #[(.ref a_1), (.ref a_2), (.ref a_3), (.int 1), (.ref a_5)] 8)
  rw [own_ef_own_rm16_s3 m a_1 a_2 a_3 a_5]
  show own_Go _ _ _ _ s₁ (mkF m 0 #[.val (.ref a_1), .val (.ref a_2), .val (.ref a_3), .val (.int 1), .val (.ref a_5), .unset, .unset, .unset] [])
  refine own_go (fun _ k => XS.iconst X0.here hx rfl (hb hby own_d16_0) (XS.istore X0.here hx rfl (hb hby own_d16_1) rfl (l' := #[.val (.ref a_1), .val (.ref a_2), .val (.ref a_3), .val (.int 1), .val (.ref a_5), .val (.int 0), .unset, .unset]) rfl (XS.iload X0.here hx rfl (hb hby own_d16_3) rfl (XS.iloadN X0.here hx rfl (hb hby own_d16_5) rfl k)))) ?_
  show own_Go _ _ _ _ s₁ (mkF m 6 #[.val (.ref a_1), .val (.ref a_2), .val (.ref a_3), .val (.int 1), .val (.ref a_5), .val (.int 0), .unset, .unset] [(.int 1), (.int 0)])
  have hc6 : (0 : Int32) < (1 : Int32) := by decide
  refine own_go (fun _ k => XS.icmpNo X0.here hx rfl (hb hby own_d16_6) rfl (Jvm.Free.XT.ii_ge_f hc6) (XS.aload X0.here hx rfl (hb hby own_d16_9) rfl rfl (XS.aloadN X0.here hx rfl (hb hby own_d16_11) rfl rfl (XS.iload X0.here hx rfl (hb hby own_d16_12) rfl k)))) ?_
  show own_Go _ _ _ _ s₁ (mkF m 14 #[.val (.ref a_1), .val (.ref a_2), .val (.ref a_3), .val (.int 1), .val (.ref a_5), .val (.int 0), .unset, .unset] [(.int 0), (.ref a_2), (.ref a_5)])
  obtain ⟨q7, c7, R7, s7, t7⟩ := id pr_A_a_2
  have hin7 : ¬ ((0 : Int32) < 0 ∨ c7.slots.size ≤ ((0 : Int32)).toNatClampNeg) := inb_of s7 ⟨by decide, by decide⟩
  have u7 : c7.slots[((0 : Int32)).toNatClampNeg]? = some (.int 0) := own_at (k := 0) t7 s7 hin7 (by decide) (rfl)
  refine own_go (fun _ k => X0.iaload hx (j := (0 : Int32)) (v := (.int 0)) (by rw [e0]; exact R7.1) (State.isArrayOf_alike hZ.alike R7.2.1) R7.2.2 hin7 u7 (g := (mkF m 14 #[.val (.ref a_1), .val (.ref a_2), .val (.ref a_3), .val (.int 1), .val (.ref a_5), .val (.int 0), .unset, .unset] [(.int 0), (.ref a_2), (.ref a_5)])) rfl rfl (hb hby own_d16_14) _ k) ?_
  show own_Go _ _ _ _ s₁ (mkF m 15 #[.val (.ref a_1), .val (.ref a_2), .val (.ref a_3), .val (.int 1), .val (.ref a_5), .val (.int 0), .unset, .unset] [(.int 0), (.ref a_5)])
  refine own_go (fun _ k => XS.iconst X0.here hx rfl (hb hby own_d16_15) (XS.iadd X0.here hx rfl (hb hby own_d16_16) rfl k)) ?_
  have sd8 : ∀ target, Steps p.tables e below (s₁.setTop (mkF m 18 #[.val (.ref a_1), .val (.ref a_2), .val (.ref a_3), .val (.int 1), .val (.ref a_5), .val (.int 0), .unset, .unset] [(.int 1), (.ref a_5), (.int 1), (.ref a_5)])) target → Steps p.tables e below (s₁.setTop (mkF m 17 #[.val (.ref a_1), .val (.ref a_2), .val (.ref a_3), .val (.int 1), .val (.ref a_5), .val (.int 0), .unset, .unset] [(.int 1), (.ref a_5)])) target := fun target kk => by
    jvm_step X0.here [X0.here.top, hx, (hb hby own_d16_17), Value.category]
    exact kk
  refine own_go (fun _ k => sd8 _ k) ?_
  show own_Go _ _ _ _ s₁ (mkF m 18 #[.val (.ref a_1), .val (.ref a_2), .val (.ref a_3), .val (.int 1), .val (.ref a_5), .val (.int 0), .unset, .unset] [(.int 1), (.ref a_5), (.int 1), (.ref a_5)])
  obtain ⟨q9, c9, R9, s9, t9⟩ := id pr_A_a_5
  have hin9 : ¬ ((1 : Int32) < 0 ∨ c9.slots.size ≤ ((1 : Int32)).toNatClampNeg) := inb_of s9 ⟨by decide, by decide⟩
  have u9 : c9.slots[((1 : Int32)).toNatClampNeg]? = some (.int 0) := own_at (k := 1) t9 s9 hin9 (by decide) (rfl)
  refine own_go (fun _ k => X0.iaload hx (j := (1 : Int32)) (v := (.int 0)) (by rw [e0]; exact R9.1) (State.isArrayOf_alike hZ.alike R9.2.1) R9.2.2 hin9 u9 (g := (mkF m 18 #[.val (.ref a_1), .val (.ref a_2), .val (.ref a_3), .val (.int 1), .val (.ref a_5), .val (.int 0), .unset, .unset] [(.int 1), (.ref a_5), (.int 1), (.ref a_5)])) rfl rfl (hb hby own_d16_18) _ k) ?_
  show own_Go _ _ _ _ s₁ (mkF m 19 #[.val (.ref a_1), .val (.ref a_2), .val (.ref a_3), .val (.int 1), .val (.ref a_5), .val (.int 0), .unset, .unset] [(.int 0), (.int 1), (.ref a_5)])
  refine own_go (fun _ k => XS.iconst X0.here hx rfl (hb hby own_d16_19) (XS.iadd X0.here hx rfl (hb hby own_d16_20) rfl k)) ?_
  obtain ⟨q10, c10, R10, s10, t10⟩ := id pr_A_a_5
  have hin10 : ¬ ((1 : Int32) < 0 ∨ c10.slots.size ≤ ((1 : Int32)).toNatClampNeg) := inb_of s10 ⟨by decide, by decide⟩
  obtain ⟨T11, h11, X11, e11, W11, st11⟩ := stI X0 hx hZ e0 R10 (j := (1 : Int32)) hin10 (g := (mkF m 21 #[.val (.ref a_1), .val (.ref a_2), .val (.ref a_3), .val (.int 1), .val (.ref a_5), .val (.int 0), .unset, .unset] [(.int 1), (.int 1), (.ref a_5)])) rfl rfl (hb hby own_d16_21)
  have V11 : own_AV Z h11 a_5 .int 3 (own_upd (fun _ => (.int 0)) 1 (.int 1)) := own_AV.set (k := 1) pr_A_a_5 W11 (by decide)
  have z12 := W11.size
  have K11 : Keep h0 h11 [a_5] := K0.wr W11 (Or.inl (List.mem_of_getElem? (i := 0) rfl))
  have N11 := Fr.snoc X11 N0 (by omega : n0 ≤ a_5)
  refine own_go (fun _ k => st11 _ k) ?_
  show own_Go _ _ _ _ T11 (mkF m 22 #[.val (.ref a_1), .val (.ref a_2), .val (.ref a_3), .val (.int 1), .val (.ref a_5), .val (.int 0), .unset, .unset] [])
  refine own_go (fun _ k => XS.iinc X11.here hx rfl (hb hby own_d16_22) rfl (l' := #[.val (.ref a_1), .val (.ref a_2), .val (.ref a_3), .val (.int 1), .val (.ref a_5), .val (.int 1), .unset, .unset]) rfl (XS.goto X11.here hx rfl (pc0 := 25) (pc' := 3) rfl (hb hby own_d16_25) (by decide) (by decide) (XS.iload X11.here hx rfl (hb hby own_d16_3) rfl (XS.iloadN X11.here hx rfl (hb hby own_d16_5) rfl k)))) ?_
  show own_Go _ _ _ _ T11 (mkF m 6 #[.val (.ref a_1), .val (.ref a_2), .val (.ref a_3), .val (.int 1), .val (.ref a_5), .val (.int 1), .unset, .unset] [(.int 1), (.int 1)])
  have hc13 : ¬ ((1 : Int32) < (1 : Int32)) := by decide
  refine own_go (fun _ k => XS.icmpYes X11.here hx rfl (pc0 := 6) (pc' := 28) rfl (hb hby own_d16_6) rfl (Jvm.Free.XT.ii_ge_t hc13) (by decide) (by decide) (XS.iconst X11.here hx rfl (hb hby own_d16_28) (XS.istore X11.here hx rfl (hb hby own_d16_29) rfl (l' := #[.val (.ref a_1), .val (.ref a_2), .val (.ref a_3), .val (.int 1), .val (.ref a_5), .val (.int 0), .unset, .unset]) rfl (XS.iload X11.here hx rfl (hb hby own_d16_31) rfl k)))) ?_
  show own_Go _ _ _ _ T11 (mkF m 33 #[.val (.ref a_1), .val (.ref a_2), .val (.ref a_3), .val (.int 1), .val (.ref a_5), .val (.int 0), .unset, .unset] [(.int 0)])
  refine own_go (fun _ k => XS.aloadN X11.here hx rfl (hb hby own_d16_33) rfl rfl k) ?_
  have f14 := (pr_F_a_1_variableCount.other W11 (Or.inl (own_ne (by omega))))
  obtain ⟨T15, X15, e15, st15⟩ := getF X11 hx hZ hown (host := "") (Or.inl (own_w23 hw)) Via.refl e11 f14 (g := (mkF m 34 #[.val (.ref a_1), .val (.ref a_2), .val (.ref a_3), .val (.int 1), .val (.ref a_5), .val (.int 0), .unset, .unset] [(.ref a_1), (.int 0)])) rfl rfl (hb hby own_d16_34)
  refine own_go (fun _ k => st15 _ k) ?_
  show own_Go _ _ _ _ T15 (mkF m 37 #[.val (.ref a_1), .val (.ref a_2), .val (.ref a_3), .val (.int 1), .val (.ref a_5), .val (.int 0), .unset, .unset] [(.int 2), (.int 0)])
  have hc16 : (0 : Int32) < (2 : Int32) := by decide
  refine own_go (fun _ k => XS.icmpNo X15.here hx rfl (hb hby own_d16_37) rfl (Jvm.Free.XT.ii_ge_f hc16) (XS.aload X15.here hx rfl (hb hby own_d16_40) rfl rfl (XS.iload X15.here hx rfl (hb hby own_d16_42) rfl (XS.iconst X15.here hx rfl (hb hby own_d16_44) k)))) ?_
  show own_Go _ _ _ _ T15 (mkF m 45 #[.val (.ref a_1), .val (.ref a_2), .val (.ref a_3), .val (.int 1), .val (.ref a_5), .val (.int 0), .unset, .unset] [(.int 1), (.int 0), (.ref a_5)])
  refine own_go (fun _ k => XS.iadd X15.here hx rfl (hb hby own_d16_45) rfl k) ?_
  have sd17 : ∀ target, Steps p.tables e below (T15.setTop (mkF m 47 #[.val (.ref a_1), .val (.ref a_2), .val (.ref a_3), .val (.int 1), .val (.ref a_5), .val (.int 0), .unset, .unset] [(.int 1), (.ref a_5), (.int 1), (.ref a_5)])) target → Steps p.tables e below (T15.setTop (mkF m 46 #[.val (.ref a_1), .val (.ref a_2), .val (.ref a_3), .val (.int 1), .val (.ref a_5), .val (.int 0), .unset, .unset] [(.int 1), (.ref a_5)])) target := fun target kk => by
    jvm_step X15.here [X15.here.top, hx, (hb hby own_d16_46), Value.category]
    exact kk
  refine own_go (fun _ k => sd17 _ k) ?_
  show own_Go _ _ _ _ T15 (mkF m 47 #[.val (.ref a_1), .val (.ref a_2), .val (.ref a_3), .val (.int 1), .val (.ref a_5), .val (.int 0), .unset, .unset] [(.int 1), (.ref a_5), (.int 1), (.ref a_5)])
  obtain ⟨q18, c18, R18, s18, t18⟩ := id V11
  have hin18 : ¬ ((1 : Int32) < 0 ∨ c18.slots.size ≤ ((1 : Int32)).toNatClampNeg) := inb_of s18 ⟨by decide, by decide⟩
  have u18 : c18.slots[((1 : Int32)).toNatClampNeg]? = some (.int 1) := own_at (k := 1) t18 s18 hin18 (by decide) (rfl)
  refine own_go (fun _ k => X15.iaload hx (j := (1 : Int32)) (v := (.int 1)) (by rw [e15]; exact R18.1) (State.isArrayOf_alike hZ.alike R18.2.1) R18.2.2 hin18 u18 (g := (mkF m 47 #[.val (.ref a_1), .val (.ref a_2), .val (.ref a_3), .val (.int 1), .val (.ref a_5), .val (.int 0), .unset, .unset] [(.int 1), (.ref a_5), (.int 1), (.ref a_5)])) rfl rfl (hb hby own_d16_47) _ k) ?_
  show own_Go _ _ _ _ T15 (mkF m 48 #[.val (.ref a_1), .val (.ref a_2), .val (.ref a_3), .val (.int 1), .val (.ref a_5), .val (.int 0), .unset, .unset] [(.int 1), (.int 1), (.ref a_5)])
  refine own_go (fun _ k => XS.aload X15.here hx rfl (hb hby own_d16_48) rfl rfl (XS.iload X15.here hx rfl (hb hby own_d16_50) rfl k)) ?_
  obtain ⟨q19, c19, R19, s19, t19⟩ := id V11
  have hin19 : ¬ ((0 : Int32) < 0 ∨ c19.slots.size ≤ ((0 : Int32)).toNatClampNeg) := inb_of s19 ⟨by decide, by decide⟩
  have u19 : c19.slots[((0 : Int32)).toNatClampNeg]? = some (.int 0) := own_at (k := 0) t19 s19 hin19 (by decide) (rfl)
  refine own_go (fun _ k => X15.iaload hx (j := (0 : Int32)) (v := (.int 0)) (by rw [e15]; exact R19.1) (State.isArrayOf_alike hZ.alike R19.2.1) R19.2.2 hin19 u19 (g := (mkF m 52 #[.val (.ref a_1), .val (.ref a_2), .val (.ref a_3), .val (.int 1), .val (.ref a_5), .val (.int 0), .unset, .unset] [(.int 0), (.ref a_5), (.int 1), (.int 1), (.ref a_5)])) rfl rfl (hb hby own_d16_52) _ k) ?_
  show own_Go _ _ _ _ T15 (mkF m 53 #[.val (.ref a_1), .val (.ref a_2), .val (.ref a_3), .val (.int 1), .val (.ref a_5), .val (.int 0), .unset, .unset] [(.int 0), (.int 1), (.int 1), (.ref a_5)])
  refine own_go (fun _ k => XS.iadd X15.here hx rfl (hb hby own_d16_53) rfl k) ?_
  obtain ⟨q20, c20, R20, s20, t20⟩ := id V11
  have hin20 : ¬ ((1 : Int32) < 0 ∨ c20.slots.size ≤ ((1 : Int32)).toNatClampNeg) := inb_of s20 ⟨by decide, by decide⟩
  obtain ⟨T21, h21, X21, e21, W21, st21⟩ := stI X15 hx hZ e15 R20 (j := (1 : Int32)) hin20 (g := (mkF m 54 #[.val (.ref a_1), .val (.ref a_2), .val (.ref a_3), .val (.int 1), .val (.ref a_5), .val (.int 0), .unset, .unset] [(.int 1), (.int 1), (.ref a_5)])) rfl rfl (hb hby own_d16_54)
  have V21 : own_AV Z h21 a_5 .int 3 (own_upd (own_upd (fun _ => (.int 0)) 1 (.int 1)) 1 (.int 1)) := own_AV.set (k := 1) V11 W21 (by decide)
  have z22 := W21.size
  have K21 : Keep h0 h21 [a_5] := K11.wr W21 (Or.inl (List.mem_of_getElem? (i := 0) rfl))
  have N21 := Fr.snoc X21 N11 (by omega : n0 ≤ a_5)
  refine own_go (fun _ k => st21 _ k) ?_
  show own_Go _ _ _ _ T21 (mkF m 55 #[.val (.ref a_1), .val (.ref a_2), .val (.ref a_3), .val (.int 1), .val (.ref a_5), .val (.int 0), .unset, .unset] [])
  refine own_go (fun _ k => XS.iinc X21.here hx rfl (hb hby own_d16_55) rfl (l' := #[.val (.ref a_1), .val (.ref a_2), .val (.ref a_3), .val (.int 1), .val (.ref a_5), .val (.int 1), .unset, .unset]) rfl (XS.goto X21.here hx rfl (pc0 := 58) (pc' := 31) rfl (hb hby own_d16_58) (by decide) (by decide) (XS.iload X21.here hx rfl (hb hby own_d16_31) rfl (XS.aloadN X21.here hx rfl (hb hby own_d16_33) rfl rfl k)))) ?_
  show own_Go _ _ _ _ T21 (mkF m 34 #[.val (.ref a_1), .val (.ref a_2), .val (.ref a_3), .val (.int 1), .val (.ref a_5), .val (.int 1), .unset, .unset] [(.ref a_1), (.int 1)])
  have f23 := (f14.other W21 (Or.inl (own_ne (by omega))))
  obtain ⟨T24, X24, e24, st24⟩ := getF X21 hx hZ hown (host := "") (Or.inl (own_w23 hw)) Via.refl e21 f23 (g := (mkF m 34 #[.val (.ref a_1), .val (.ref a_2), .val (.ref a_3), .val (.int 1), .val (.ref a_5), .val (.int 1), .unset, .unset] [(.ref a_1), (.int 1)])) rfl rfl (hb hby own_d16_34)
  refine own_go (fun _ k => st24 _ k) ?_
  show own_Go _ _ _ _ T24 (mkF m 37 #[.val (.ref a_1), .val (.ref a_2), .val (.ref a_3), .val (.int 1), .val (.ref a_5), .val (.int 1), .unset, .unset] [(.int 2), (.int 1)])
  have hc25 : (1 : Int32) < (2 : Int32) := by decide
  refine own_go (fun _ k => XS.icmpNo X24.here hx rfl (hb hby own_d16_37) rfl (Jvm.Free.XT.ii_ge_f hc25) (XS.aload X24.here hx rfl (hb hby own_d16_40) rfl rfl (XS.iload X24.here hx rfl (hb hby own_d16_42) rfl (XS.iconst X24.here hx rfl (hb hby own_d16_44) k)))) ?_
  show own_Go _ _ _ _ T24 (mkF m 45 #[.val (.ref a_1), .val (.ref a_2), .val (.ref a_3), .val (.int 1), .val (.ref a_5), .val (.int 1), .unset, .unset] [(.int 1), (.int 1), (.ref a_5)])
  refine own_go (fun _ k => XS.iadd X24.here hx rfl (hb hby own_d16_45) rfl k) ?_
  have sd26 : ∀ target, Steps p.tables e below (T24.setTop (mkF m 47 #[.val (.ref a_1), .val (.ref a_2), .val (.ref a_3), .val (.int 1), .val (.ref a_5), .val (.int 1), .unset, .unset] [(.int 2), (.ref a_5), (.int 2), (.ref a_5)])) target → Steps p.tables e below (T24.setTop (mkF m 46 #[.val (.ref a_1), .val (.ref a_2), .val (.ref a_3), .val (.int 1), .val (.ref a_5), .val (.int 1), .unset, .unset] [(.int 2), (.ref a_5)])) target := fun target kk => by
    jvm_step X24.here [X24.here.top, hx, (hb hby own_d16_46), Value.category]
    exact kk
  refine own_go (fun _ k => sd26 _ k) ?_
  show own_Go _ _ _ _ T24 (mkF m 47 #[.val (.ref a_1), .val (.ref a_2), .val (.ref a_3), .val (.int 1), .val (.ref a_5), .val (.int 1), .unset, .unset] [(.int 2), (.ref a_5), (.int 2), (.ref a_5)])
  obtain ⟨q27, c27, R27, s27, t27⟩ := id V21
  have hin27 : ¬ ((2 : Int32) < 0 ∨ c27.slots.size ≤ ((2 : Int32)).toNatClampNeg) := inb_of s27 ⟨by decide, by decide⟩
  have u27 : c27.slots[((2 : Int32)).toNatClampNeg]? = some (.int 0) := own_at (k := 2) t27 s27 hin27 (by decide) (rfl)
  refine own_go (fun _ k => X24.iaload hx (j := (2 : Int32)) (v := (.int 0)) (by rw [e24]; exact R27.1) (State.isArrayOf_alike hZ.alike R27.2.1) R27.2.2 hin27 u27 (g := (mkF m 47 #[.val (.ref a_1), .val (.ref a_2), .val (.ref a_3), .val (.int 1), .val (.ref a_5), .val (.int 1), .unset, .unset] [(.int 2), (.ref a_5), (.int 2), (.ref a_5)])) rfl rfl (hb hby own_d16_47) _ k) ?_
  show own_Go _ _ _ _ T24 (mkF m 48 #[.val (.ref a_1), .val (.ref a_2), .val (.ref a_3), .val (.int 1), .val (.ref a_5), .val (.int 1), .unset, .unset] [(.int 0), (.int 2), (.ref a_5)])
  refine own_go (fun _ k => XS.aload X24.here hx rfl (hb hby own_d16_48) rfl rfl (XS.iload X24.here hx rfl (hb hby own_d16_50) rfl k)) ?_
  obtain ⟨q28, c28, R28, s28, t28⟩ := id V21
  have hin28 : ¬ ((1 : Int32) < 0 ∨ c28.slots.size ≤ ((1 : Int32)).toNatClampNeg) := inb_of s28 ⟨by decide, by decide⟩
  have u28 : c28.slots[((1 : Int32)).toNatClampNeg]? = some (.int 1) := own_at (k := 1) t28 s28 hin28 (by decide) (rfl)
  refine own_go (fun _ k => X24.iaload hx (j := (1 : Int32)) (v := (.int 1)) (by rw [e24]; exact R28.1) (State.isArrayOf_alike hZ.alike R28.2.1) R28.2.2 hin28 u28 (g := (mkF m 52 #[.val (.ref a_1), .val (.ref a_2), .val (.ref a_3), .val (.int 1), .val (.ref a_5), .val (.int 1), .unset, .unset] [(.int 1), (.ref a_5), (.int 0), (.int 2), (.ref a_5)])) rfl rfl (hb hby own_d16_52) _ k) ?_
  show own_Go _ _ _ _ T24 (mkF m 53 #[.val (.ref a_1), .val (.ref a_2), .val (.ref a_3), .val (.int 1), .val (.ref a_5), .val (.int 1), .unset, .unset] [(.int 1), (.int 0), (.int 2), (.ref a_5)])
  refine own_go (fun _ k => XS.iadd X24.here hx rfl (hb hby own_d16_53) rfl k) ?_
  obtain ⟨q29, c29, R29, s29, t29⟩ := id V21
  have hin29 : ¬ ((2 : Int32) < 0 ∨ c29.slots.size ≤ ((2 : Int32)).toNatClampNeg) := inb_of s29 ⟨by decide, by decide⟩
  obtain ⟨T30, h30, X30, e30, W30, st30⟩ := stI X24 hx hZ e24 R29 (j := (2 : Int32)) hin29 (g := (mkF m 54 #[.val (.ref a_1), .val (.ref a_2), .val (.ref a_3), .val (.int 1), .val (.ref a_5), .val (.int 1), .unset, .unset] [(.int 1), (.int 2), (.ref a_5)])) rfl rfl (hb hby own_d16_54)
  have V30 : own_AV Z h30 a_5 .int 3 (own_upd (own_upd (own_upd (fun _ => (.int 0)) 1 (.int 1)) 1 (.int 1)) 2 (.int 1)) := own_AV.set (k := 2) V21 W30 (by decide)
  have z31 := W30.size
  have K30 : Keep h0 h30 [a_5] := K21.wr W30 (Or.inl (List.mem_of_getElem? (i := 0) rfl))
  have N30 := Fr.snoc X30 N21 (by omega : n0 ≤ a_5)
  refine own_go (fun _ k => st30 _ k) ?_
  show own_Go _ _ _ _ T30 (mkF m 55 #[.val (.ref a_1), .val (.ref a_2), .val (.ref a_3), .val (.int 1), .val (.ref a_5), .val (.int 1), .unset, .unset] [])
  refine own_go (fun _ k => XS.iinc X30.here hx rfl (hb hby own_d16_55) rfl (l' := #[.val (.ref a_1), .val (.ref a_2), .val (.ref a_3), .val (.int 1), .val (.ref a_5), .val (.int 2), .unset, .unset]) rfl (XS.goto X30.here hx rfl (pc0 := 58) (pc' := 31) rfl (hb hby own_d16_58) (by decide) (by decide) (XS.iload X30.here hx rfl (hb hby own_d16_31) rfl (XS.aloadN X30.here hx rfl (hb hby own_d16_33) rfl rfl k)))) ?_
  show own_Go _ _ _ _ T30 (mkF m 34 #[.val (.ref a_1), .val (.ref a_2), .val (.ref a_3), .val (.int 1), .val (.ref a_5), .val (.int 2), .unset, .unset] [(.ref a_1), (.int 2)])
  have f32 := (f23.other W30 (Or.inl (own_ne (by omega))))
  obtain ⟨T33, X33, e33, st33⟩ := getF X30 hx hZ hown (host := "") (Or.inl (own_w23 hw)) Via.refl e30 f32 (g := (mkF m 34 #[.val (.ref a_1), .val (.ref a_2), .val (.ref a_3), .val (.int 1), .val (.ref a_5), .val (.int 2), .unset, .unset] [(.ref a_1), (.int 2)])) rfl rfl (hb hby own_d16_34)
  refine own_go (fun _ k => st33 _ k) ?_
  show own_Go _ _ _ _ T33 (mkF m 37 #[.val (.ref a_1), .val (.ref a_2), .val (.ref a_3), .val (.int 1), .val (.ref a_5), .val (.int 2), .unset, .unset] [(.int 2), (.int 2)])
  have hc34 : ¬ ((2 : Int32) < (2 : Int32)) := by decide
  refine own_go (fun _ k => XS.icmpYes X33.here hx rfl (pc0 := 37) (pc' := 61) rfl (hb hby own_d16_37) rfl (Jvm.Free.XT.ii_ge_t hc34) (by decide) (by decide) (XS.aload X33.here hx rfl (hb hby own_d16_61) rfl rfl (XS.aloadN X33.here hx rfl (hb hby own_d16_63) rfl rfl k))) ?_
  obtain ⟨T35, X35, e35, st35⟩ := getF X33 hx hZ hown (host := "") (Or.inl (own_w23 hw)) Via.refl e33 f32 (g := (mkF m 64 #[.val (.ref a_1), .val (.ref a_2), .val (.ref a_3), .val (.int 1), .val (.ref a_5), .val (.int 2), .unset, .unset] [(.ref a_1), (.ref a_5)])) rfl rfl (hb hby own_d16_64)
  refine own_go (fun _ k => st35 _ k) ?_
  show own_Go _ _ _ _ T35 (mkF m 67 #[.val (.ref a_1), .val (.ref a_2), .val (.ref a_3), .val (.int 1), .val (.ref a_5), .val (.int 2), .unset, .unset] [(.int 2), (.ref a_5)])
  obtain ⟨_, _, ⟨T36, L36, k36, n36⟩, -, X36, ⟨Lc36, hQ36, l36, y36, z36⟩, st36⟩ := Jvm.LawKit.callS X35 hx (y := (⟨"java/util/Arrays", "copyOf", "([II)[I"⟩ : MethodName)) hown (mvT hZ (hw _ (List.mem_of_getElem? (i := 96) rfl))) (mvT hZ (hw _ (List.mem_of_getElem? (i := 97) rfl))) (mvT hZ (own_w72 hw)) (mvT hZ (hw _ (List.mem_of_getElem? (i := 98) rfl))) (by decide) (backOf (W := 0) (own_rm17_s3 l Z a0 hw [] a_5  h30 n0 (by omega) V30) hZ (hw _ (List.mem_of_getElem? (i := 98) rfl)) (own_w72 hw) (by decide) (by decide)) (g := (mkF m 67 #[.val (.ref a_1), .val (.ref a_2), .val (.ref a_3), .val (.int 1), .val (.ref a_5), .val (.int 2), .unset, .unset] [(.int 2), (.ref a_5)])) rfl (by rw [hml]; rfl) (argsL := [(.ref a_5), (.int 2)]) (rest := []) (lenOf own_pd10 rfl) rfl (by show 2 * 0 + _ ≤ _; exact Nat.le_of_eq rfl) (hb hby own_d16_67) (fun _ _ => ⟨rfl, e35, (by decide : 0 + 1 ≤ _), (by decide : 0 + 2 ≤ _)⟩)
  dsimp only [Pt.U, Pt.locs, Pt.cells, Pt.slots] at X36 l36 y36 z36 st36 hQ36
  have y36 : k36 = 1 := y36
  have z36 : n36 = 2 := z36
  obtain ⟨x_37, rfl, N36q, K36q, f38, f39⟩ := hQ36
  have N36 : Fr n0 L36 := by rw [l36]; exact Fr.app N30 N36q
  have z40 := K36q.1
  have K36 : Keep h0 T36.heap [a_5] := K30.trans K36q all0
  have z41 := own_lt f38.lt
  refine own_go (fun _ k => st36 _ k) ?_
  show own_Go _ _ _ _ T36 (mkF m 70 #[.val (.ref a_1), .val (.ref a_2), .val (.ref a_3), .val (.int 1), .val (.ref a_5), .val (.int 2), .unset, .unset] [(.ref x_37)])
  refine own_go (fun _ k => XS.astore X36.here hx rfl (hb hby own_d16_70) rfl rfl (l' := #[.val (.ref a_1), .val (.ref a_2), .val (.ref a_3), .val (.int 1), .val (.ref a_5), .val (.ref x_37), .unset, .unset]) rfl (XS.iloadN X36.here hx rfl (hb hby own_d16_72) rfl k)) ?_
  obtain ⟨T42, h42, k42, X42, e42, E42, A42, st42⟩ := newP X36 hx hZ (hw _ (List.mem_of_getElem? (i := 9) rfl)) rfl (g := (mkF m 73 #[.val (.ref a_1), .val (.ref a_2), .val (.ref a_3), .val (.int 1), .val (.ref a_5), .val (.ref x_37), .unset, .unset] [(.int 1)])) rfl (hb hby own_d16_73) rfl (by decide) (cap := 1) (by decide) (by decide) (by rw [y36]; decide) (by rw [z36]; decide)
  obtain ⟨b42, g42⟩ : ∃ z, z = T36.heap.size := ⟨_, rfl⟩
  rw [← g42] at A42 st42
  have z43 := E42.1
  have lt_b42 := own_lt A42.lt
  have K42 : Keep h0 h42 [a_5] := K36.ext E42
  have V_b42 : own_AV Z h42 b42 .int 1 (fun _ => (.int 0)) := own_AV.new A42 (by decide)
  refine own_go (fun _ k => st42 _ k) ?_
  show own_Go _ _ _ _ T42 (mkF m 75 #[.val (.ref a_1), .val (.ref a_2), .val (.ref a_3), .val (.int 1), .val (.ref a_5), .val (.ref x_37), .unset, .unset] [(.ref b42)])
  refine own_go (fun _ k => XS.astore X42.here hx rfl (hb hby own_d16_75) rfl rfl (l' := #[.val (.ref a_1), .val (.ref a_2), .val (.ref a_3), .val (.int 1), .val (.ref a_5), .val (.ref x_37), .val (.ref b42), .unset]) rfl (XS.iconst X42.here hx rfl (hb hby own_d16_77) (XS.istore X42.here hx rfl (hb hby own_d16_78) rfl (l' := #[.val (.ref a_1), .val (.ref a_2), .val (.ref a_3), .val (.int 1), .val (.ref a_5), .val (.ref x_37), .val (.ref b42), .val (.int 0)]) rfl (XS.iload X42.here hx rfl (hb hby own_d16_80) rfl k)))) ?_
  show own_Go _ _ _ _ T42 (mkF m 82 #[.val (.ref a_1), .val (.ref a_2), .val (.ref a_3), .val (.int 1), .val (.ref a_5), .val (.ref x_37), .val (.ref b42), .val (.int 0)] [(.int 0)])
  refine own_go (fun _ k => XS.iloadN X42.here hx rfl (hb hby own_d16_82) rfl k) ?_
  have hc44 : (0 : Int32) < (1 : Int32) := by decide
  refine own_go (fun _ k => XS.icmpNo X42.here hx rfl (hb hby own_d16_83) rfl (Jvm.Free.XT.ii_ge_f hc44) (XS.aload X42.here hx rfl (hb hby own_d16_86) rfl rfl (XS.aload X42.here hx rfl (hb hby own_d16_88) rfl rfl (XS.aloadN X42.here hx rfl (hb hby own_d16_90) rfl rfl k)))) ?_
  show own_Go _ _ _ _ T42 (mkF m 91 #[.val (.ref a_1), .val (.ref a_2), .val (.ref a_3), .val (.int 1), .val (.ref a_5), .val (.ref x_37), .val (.ref b42), .val (.int 0)] [(.ref a_2), (.ref x_37), (.ref b42)])
  refine own_go (fun _ k => XS.iload X42.here hx rfl (hb hby own_d16_91) rfl k) ?_
  have f45 := (((((pr_A_a_2.other W11 (own_ne (by omega))).other W21 (own_ne (by omega))).other W30 (own_ne (by omega))).keep K36q nin0).ext E42)
  obtain ⟨q46, c46, R46, s46, t46⟩ := id f45
  have hin46 : ¬ ((0 : Int32) < 0 ∨ c46.slots.size ≤ ((0 : Int32)).toNatClampNeg) := inb_of s46 ⟨by decide, by decide⟩
  have u46 : c46.slots[((0 : Int32)).toNatClampNeg]? = some (.int 0) := own_at (k := 0) t46 s46 hin46 (by decide) (rfl)
  refine own_go (fun _ k => X42.iaload hx (j := (0 : Int32)) (v := (.int 0)) (by rw [e42]; exact R46.1) (State.isArrayOf_alike hZ.alike R46.2.1) R46.2.2 hin46 u46 (g := (mkF m 93 #[.val (.ref a_1), .val (.ref a_2), .val (.ref a_3), .val (.int 1), .val (.ref a_5), .val (.ref x_37), .val (.ref b42), .val (.int 0)] [(.int 0), (.ref a_2), (.ref x_37), (.ref b42)])) rfl rfl (hb hby own_d16_93) _ k) ?_
  show own_Go _ _ _ _ T42 (mkF m 94 #[.val (.ref a_1), .val (.ref a_2), .val (.ref a_3), .val (.int 1), .val (.ref a_5), .val (.ref x_37), .val (.ref b42), .val (.int 0)] [(.int 0), (.ref x_37), (.ref b42)])
  have f47 := (f38.ext E42)
  obtain ⟨q48, c48, R48, s48, t48⟩ := id f47
  have hin48 : ¬ ((0 : Int32) < 0 ∨ c48.slots.size ≤ ((0 : Int32)).toNatClampNeg) := inb_of s48 ⟨by decide, by decide⟩
  have u48 : c48.slots[((0 : Int32)).toNatClampNeg]? = some (.int 0) := own_at (k := 0) t48 s48 hin48 (by decide) (rfl)
  refine own_go (fun _ k => X42.iaload hx (j := (0 : Int32)) (v := (.int 0)) (by rw [e42]; exact R48.1) (State.isArrayOf_alike hZ.alike R48.2.1) R48.2.2 hin48 u48 (g := (mkF m 94 #[.val (.ref a_1), .val (.ref a_2), .val (.ref a_3), .val (.int 1), .val (.ref a_5), .val (.ref x_37), .val (.ref b42), .val (.int 0)] [(.int 0), (.ref x_37), (.ref b42)])) rfl rfl (hb hby own_d16_94) _ k) ?_
  show own_Go _ _ _ _ T42 (mkF m 95 #[.val (.ref a_1), .val (.ref a_2), .val (.ref a_3), .val (.int 1), .val (.ref a_5), .val (.ref x_37), .val (.ref b42), .val (.int 0)] [(.int 0), (.ref b42)])
  refine own_go (fun _ k => XS.aloadN X42.here hx rfl (hb hby own_d16_95) rfl rfl (XS.iload X42.here hx rfl (hb hby own_d16_96) rfl k)) ?_
  have f49 := (((((pr_A_a_3.other W11 (own_ne (by omega))).other W21 (own_ne (by omega))).other W30 (own_ne (by omega))).keep K36q nin0).ext E42)
  obtain ⟨q50, c50, R50, s50, t50⟩ := id f49
  have hin50 : ¬ ((0 : Int32) < 0 ∨ c50.slots.size ≤ ((0 : Int32)).toNatClampNeg) := inb_of s50 ⟨by decide, by decide⟩
  have u50 : c50.slots[((0 : Int32)).toNatClampNeg]? = some (.int 0) := own_at (k := 0) t50 s50 hin50 (by decide) (rfl)
  refine own_go (fun _ k => X42.iaload hx (j := (0 : Int32)) (v := (.int 0)) (by rw [e42]; exact R50.1) (State.isArrayOf_alike hZ.alike R50.2.1) R50.2.2 hin50 u50 (g := (mkF m 98 #[.val (.ref a_1), .val (.ref a_2), .val (.ref a_3), .val (.int 1), .val (.ref a_5), .val (.ref x_37), .val (.ref b42), .val (.int 0)] [(.int 0), (.ref a_3), (.int 0), (.ref b42)])) rfl rfl (hb hby own_d16_98) _ k) ?_
  show own_Go _ _ _ _ T42 (mkF m 99 #[.val (.ref a_1), .val (.ref a_2), .val (.ref a_3), .val (.int 1), .val (.ref a_5), .val (.ref x_37), .val (.ref b42), .val (.int 0)] [(.int 0), (.int 0), (.ref b42)])
  obtain ⟨q51, c51, R51, s51, t51⟩ := id V_b42
  have hin51 : ¬ ((0 : Int32) < 0 ∨ c51.slots.size ≤ ((0 : Int32)).toNatClampNeg) := inb_of s51 ⟨by decide, by decide⟩
  obtain ⟨T52, h52, X52, e52, W52, st52⟩ := stI X42 hx hZ e42 R51 (j := (0 : Int32)) hin51 (g := (mkF m 99 #[.val (.ref a_1), .val (.ref a_2), .val (.ref a_3), .val (.int 1), .val (.ref a_5), .val (.ref x_37), .val (.ref b42), .val (.int 0)] [(.int 0), (.int 0), (.ref b42)])) rfl rfl (hb hby own_d16_99)
  have V52 : own_AV Z h52 b42 .int 1 (own_upd (fun _ => (.int 0)) 0 (.int 0)) := own_AV.set (k := 0) V_b42 W52 (by decide)
  have z53 := W52.size
  have K52 : Keep h0 h52 [a_5] := K42.wr W52 (Or.inr (by omega))
  have N52 := Fr.snoc X52 N36 (by omega : n0 ≤ b42)
  refine own_go (fun _ k => st52 _ k) ?_
  show own_Go _ _ _ _ T52 (mkF m 100 #[.val (.ref a_1), .val (.ref a_2), .val (.ref a_3), .val (.int 1), .val (.ref a_5), .val (.ref x_37), .val (.ref b42), .val (.int 0)] [])
  refine own_go (fun _ k => XS.aload X52.here hx rfl (hb hby own_d16_100) rfl rfl (XS.aloadN X52.here hx rfl (hb hby own_d16_102) rfl rfl (XS.iload X52.here hx rfl (hb hby own_d16_103) rfl k))) ?_
  have f54 := (f45.other W52 (own_ne (by omega)))
  obtain ⟨q55, c55, R55, s55, t55⟩ := id f54
  have hin55 : ¬ ((0 : Int32) < 0 ∨ c55.slots.size ≤ ((0 : Int32)).toNatClampNeg) := inb_of s55 ⟨by decide, by decide⟩
  have u55 : c55.slots[((0 : Int32)).toNatClampNeg]? = some (.int 0) := own_at (k := 0) t55 s55 hin55 (by decide) (rfl)
  refine own_go (fun _ k => X52.iaload hx (j := (0 : Int32)) (v := (.int 0)) (by rw [e52]; exact R55.1) (State.isArrayOf_alike hZ.alike R55.2.1) R55.2.2 hin55 u55 (g := (mkF m 105 #[.val (.ref a_1), .val (.ref a_2), .val (.ref a_3), .val (.int 1), .val (.ref a_5), .val (.ref x_37), .val (.ref b42), .val (.int 0)] [(.int 0), (.ref a_2), (.ref x_37)])) rfl rfl (hb hby own_d16_105) _ k) ?_
  show own_Go _ _ _ _ T52 (mkF m 106 #[.val (.ref a_1), .val (.ref a_2), .val (.ref a_3), .val (.int 1), .val (.ref a_5), .val (.ref x_37), .val (.ref b42), .val (.int 0)] [(.int 0), (.ref x_37)])
  have sd56 : ∀ target, Steps p.tables e below (T52.setTop (mkF m 107 #[.val (.ref a_1), .val (.ref a_2), .val (.ref a_3), .val (.int 1), .val (.ref a_5), .val (.ref x_37), .val (.ref b42), .val (.int 0)] [(.int 0), (.ref x_37), (.int 0), (.ref x_37)])) target → Steps p.tables e below (T52.setTop (mkF m 106 #[.val (.ref a_1), .val (.ref a_2), .val (.ref a_3), .val (.int 1), .val (.ref a_5), .val (.ref x_37), .val (.ref b42), .val (.int 0)] [(.int 0), (.ref x_37)])) target := fun target kk => by
    jvm_step X52.here [X52.here.top, hx, (hb hby own_d16_106), Value.category]
    exact kk
  refine own_go (fun _ k => sd56 _ k) ?_
  show own_Go _ _ _ _ T52 (mkF m 107 #[.val (.ref a_1), .val (.ref a_2), .val (.ref a_3), .val (.int 1), .val (.ref a_5), .val (.ref x_37), .val (.ref b42), .val (.int 0)] [(.int 0), (.ref x_37), (.int 0), (.ref x_37)])
  have f57 := (f47.other W52 (own_ne (by omega)))
  obtain ⟨q58, c58, R58, s58, t58⟩ := id f57
  have hin58 : ¬ ((0 : Int32) < 0 ∨ c58.slots.size ≤ ((0 : Int32)).toNatClampNeg) := inb_of s58 ⟨by decide, by decide⟩
  have u58 : c58.slots[((0 : Int32)).toNatClampNeg]? = some (.int 0) := own_at (k := 0) t58 s58 hin58 (by decide) (rfl)
  refine own_go (fun _ k => X52.iaload hx (j := (0 : Int32)) (v := (.int 0)) (by rw [e52]; exact R58.1) (State.isArrayOf_alike hZ.alike R58.2.1) R58.2.2 hin58 u58 (g := (mkF m 107 #[.val (.ref a_1), .val (.ref a_2), .val (.ref a_3), .val (.int 1), .val (.ref a_5), .val (.ref x_37), .val (.ref b42), .val (.int 0)] [(.int 0), (.ref x_37), (.int 0), (.ref x_37)])) rfl rfl (hb hby own_d16_107) _ k) ?_
  show own_Go _ _ _ _ T52 (mkF m 108 #[.val (.ref a_1), .val (.ref a_2), .val (.ref a_3), .val (.int 1), .val (.ref a_5), .val (.ref x_37), .val (.ref b42), .val (.int 0)] [(.int 0), (.int 0), (.ref x_37)])
  refine own_go (fun _ k => XS.iconst X52.here hx rfl (hb hby own_d16_108) (XS.iadd X52.here hx rfl (hb hby own_d16_109) rfl k)) ?_
  obtain ⟨q59, c59, R59, s59, t59⟩ := id f57
  have hin59 : ¬ ((0 : Int32) < 0 ∨ c59.slots.size ≤ ((0 : Int32)).toNatClampNeg) := inb_of s59 ⟨by decide, by decide⟩
  obtain ⟨T60, h60, X60, e60, W60, st60⟩ := stI X52 hx hZ e52 R59 (j := (0 : Int32)) hin59 (g := (mkF m 110 #[.val (.ref a_1), .val (.ref a_2), .val (.ref a_3), .val (.int 1), .val (.ref a_5), .val (.ref x_37), .val (.ref b42), .val (.int 0)] [(.int 1), (.int 0), (.ref x_37)])) rfl rfl (hb hby own_d16_110)
  have V60 : own_AV Z h60 x_37 .int 2 (own_upd (own_upd (own_upd (fun _ => (.int 0)) 0 (.int 0)) 1 (.int 1)) 0 (.int 1)) := own_AV.set (k := 0) f57 W60 (by decide)
  have z61 := W60.size
  have K60 : Keep h0 h60 [a_5] := K52.wr W60 (Or.inr (by omega))
  have N60 := Fr.snoc X60 N52 (by omega : n0 ≤ x_37)
  refine own_go (fun _ k => st60 _ k) ?_
  show own_Go _ _ _ _ T60 (mkF m 111 #[.val (.ref a_1), .val (.ref a_2), .val (.ref a_3), .val (.int 1), .val (.ref a_5), .val (.ref x_37), .val (.ref b42), .val (.int 0)] [])
  refine own_go (fun _ k => XS.iinc X60.here hx rfl (hb hby own_d16_111) rfl (l' := #[.val (.ref a_1), .val (.ref a_2), .val (.ref a_3), .val (.int 1), .val (.ref a_5), .val (.ref x_37), .val (.ref b42), .val (.int 1)]) rfl (XS.goto X60.here hx rfl (pc0 := 114) (pc' := 80) rfl (hb hby own_d16_114) (by decide) (by decide) (XS.iload X60.here hx rfl (hb hby own_d16_80) rfl (XS.iloadN X60.here hx rfl (hb hby own_d16_82) rfl k)))) ?_
  show own_Go _ _ _ _ T60 (mkF m 83 #[.val (.ref a_1), .val (.ref a_2), .val (.ref a_3), .val (.int 1), .val (.ref a_5), .val (.ref x_37), .val (.ref b42), .val (.int 1)] [(.int 1), (.int 1)])
  have hc62 : ¬ ((1 : Int32) < (1 : Int32)) := by decide
  refine own_go (fun _ k => XS.icmpYes X60.here hx rfl (pc0 := 83) (pc' := 117) rfl (hb hby own_d16_83) rfl (Jvm.Free.XT.ii_ge_t hc62) (by decide) (by decide) (XS.aload X60.here hx rfl (hb hby own_d16_117) rfl rfl k)) ?_
  show own_Go _ _ _ _ T60 (mkF m 119 #[.val (.ref a_1), .val (.ref a_2), .val (.ref a_3), .val (.int 1), .val (.ref a_5), .val (.ref x_37), .val (.ref b42), .val (.int 1)] [(.ref b42)])
  obtain ⟨fs, hr, hrun, hended, hW, hsame⟩ := X60.leave (v := some (.ref b42)) (fun h => by rw [Bd.returns] at h; cases h)
  refine ⟨_, _, retOut X60 hx Bd.returns rfl (Or.inr (Or.inr (Or.inr (Or.inr ⟨rfl, rfl, rfl⟩)))) (hb hby own_d16_119) hr, hrun, hended, _, _, rfl, ?_, ⟨_, rfl⟩, hW, hsame.mono (by rw [y36]; decide) (by rw [z36]; decide)⟩
  show own_Q16_s3 Z a_1 a_2 a_3 a_5 h0 n0 _ T60.heap _
  rw [e60]
  have f64 := ((((V30.keep K36q nin0).ext E42).other W52 (own_ne (by omega))).other W60 (own_ne (by omega)))
  have f65 := (V52.other W60 (own_ne (by omega)))
  exact ⟨b42, rfl, N60, K60, f64, f65, (by omega)⟩
theorem own_ef_own_rm17_s4 (m : MethodId) (x0 : Addr) : entryFrame m #[(.ref x0), (.int 2)] 3 = mkF m 0 #[.val (.ref x0), .val (.int 2), .unset] [] := by first | (simp [entryFrame, mkF, argsToLocals, Value.category]; done) | rfl
def own_Q17_s4 (Z : State) (a_1 : Addr) (h0 : Heap) (n0 : Nat) (v : Option Value) (h : Heap) (L : List Loc) : Prop := ∃ (x_0 : Addr), v = some (.ref x_0) ∧ Fr n0 L ∧ Keep h0 h [] ∧ own_AV Z h x_0 .int 2 (own_upd (own_upd (fun _ => (.int 0)) 0 (.int 0)) 1 (.int 0)) ∧ (h0.size ≤ x_0)
set_option maxRecDepth 65536 in
set_option maxHeartbeats 40000000 in
theorem own_rm17_s4 (l : Launch) (Z : State) (a0 : Array Value) (hw : ∀ d ∈ tables_1, d.before a0 Z = true) (ws : List Jvm.Cond) (a_1 : Addr) (h0 : Heap) (n0 : Nat) (Z0 : n0 ≤ h0.size) (pr_A_a_1 : own_AV Z h0 a_1 .int 3 (own_upd (own_upd (own_upd (fun _ => (.int 0)) 2 (.int 1)) 1 (.int 0)) 2 (.int 1))) :
    MetFree l (⟨"java/util/Arrays", "copyOf", "([II)[I"⟩ : MethodName) (head1 (Jvm.Cond.code (⟨"java/util/Arrays", "copyOf", "([II)[I"⟩ : MethodName) jdk_65_method_123_code 3 (some (.array .int)) :: ws) ({ frames := 1, cells := 1, slots := 2, locals := 40 } : Room)) (fun a U => a = #[(.ref a_1), (.int 2)] ∧ Z.Warmed39 U.vm ∧ U.heap = h0) (fun _ _ _ _ _ => True) (fun _ U o U' => ∃ v L, o = .returned v ∧ own_Q17_s4 Z a_1 h0 n0 v U'.heap L ∧ FrameEnd U o U' L ({ frames := 1, cells := 1, slots := 2, locals := 40 } : Room).cells ({ frames := 1, cells := 1, slots := 2, locals := 40 } : Room).slots) := by
  refine MetFree.of_bodySF (plainFor_of_name own_pn1) hisR ?_
  intro p e s m args below meth c s₁ Bd hml0 hP hK
  obtain ⟨rfl, hZ, hh⟩ := hP
  have hx := Bd.exec
  have hby := Bd.bytes
  have hml : c.maxLocals = 3 := hml0
  have hown : s.vm.findClass "java/util/Arrays" = some m.cls := findClass_of_methodNamed Bd.named
  have hnm := (name_of_methodNamed Bd.named Bd.method).1
  have X0 : Stand p l e ({ frames := 1, cells := 1, slots := 2, locals := 40 } : Room) s m #[(.ref a_1), (.int 2)] below meth c s₁ [] 0 0 := Stand.of_body Bd
  have e0 : s₁.heap = h0 := by rw [← hh, Bd.state]; rfl
  have N0 := Fr.nil n0
  have z0 : n0 ≤ h0.size := Z0
  have z1 := own_lt pr_A_a_1.lt
  have K0 : Keep h0 h0 [] := Keep.refl h0 _
  show own_Go p.tables e below (fun t o => t.status = .running ∧ Ended t below o ∧ ∃ v L, o = .returned v ∧ own_Q17_s4 Z a_1 h0 n0 v t.heap L ∧ FrameEnd s o t L ({ frames := 1, cells := 1, slots := 2, locals := 40 } : Room).cells ({ frames := 1, cells := 1, slots := 2, locals := 40 } : Room).slots) s₁ (entryFrame m #[(.ref a_1), (.int 2)] 3)
  rw [own_ef_own_rm17_s4 m a_1]
  show own_Go _ _ _ _ s₁ (mkF m 0 #[.val (.ref a_1), .val (.int 2), .unset] [])
  refine own_go (fun _ k => XS.iloadN X0.here hx rfl (hb hby own_d17_0) rfl (XS.aloadN X0.here hx rfl (hb hby own_d17_1) rfl rfl k)) ?_
  obtain ⟨q2, c2, R2, s2, t2⟩ := id pr_A_a_1
  refine own_go (fun _ k => X0.arraylength hx (by rw [e0]; exact R2.1) (State.isArrayOf_alike hZ.alike R2.2.1) (g := (mkF m 2 #[.val (.ref a_1), .val (.int 2), .unset] [(.ref a_1), (.int 2)])) rfl rfl (hb hby own_d17_2) _ k) ?_
  rw [len_of s2 q2]
  show own_Go _ _ _ _ s₁ (mkF m 3 #[.val (.ref a_1), .val (.int 2), .unset] [(.int 3), (.int 2)])
  have hc3 : ¬ ((2 : Int32) = (3 : Int32)) := by decide
  refine own_go (fun _ k => XS.icmpYes X0.here hx rfl (pc0 := 3) (pc' := 14) rfl (hb hby own_d17_3) rfl (Jvm.Free.XT.ii_ne_t hc3) (by decide) (by decide) (XS.iloadN X0.here hx rfl (hb hby own_d17_14) rfl k)) ?_
  obtain ⟨T4, h4, k4, X4, e4, E4, A4, st4⟩ := newP X0 hx hZ (hw _ (List.mem_of_getElem? (i := 9) rfl)) e0 (g := (mkF m 15 #[.val (.ref a_1), .val (.int 2), .unset] [(.int 2)])) rfl (hb hby own_d17_15) rfl (by decide) (cap := 2) (by decide) (by decide) (by decide) (by decide)
  obtain ⟨b4, g4⟩ : ∃ z, z = h0.size := ⟨_, rfl⟩
  rw [← g4] at A4 st4
  have z5 := E4.1
  have lt_b4 := own_lt A4.lt
  have K4 : Keep h0 h4 [] := K0.ext E4
  have V_b4 : own_AV Z h4 b4 .int 2 (fun _ => (.int 0)) := own_AV.new A4 (by decide)
  refine own_go (fun _ k => st4 _ k) ?_
  show own_Go _ _ _ _ T4 (mkF m 17 #[.val (.ref a_1), .val (.int 2), .unset] [(.ref b4)])
  refine own_go (fun _ k => XS.astoreN X4.here hx rfl (hb hby own_d17_17) rfl rfl (l' := #[.val (.ref a_1), .val (.int 2), .val (.ref b4)]) rfl (XS.aloadN X4.here hx rfl (hb hby own_d17_18) rfl rfl (XS.iconst X4.here hx rfl (hb hby own_d17_19) (XS.aloadN X4.here hx rfl (hb hby own_d17_20) rfl rfl k)))) ?_
  show own_Go _ _ _ _ T4 (mkF m 21 #[.val (.ref a_1), .val (.int 2), .val (.ref b4)] [(.ref b4), (.int 0), (.ref a_1)])
  refine own_go (fun _ k => XS.iconst X4.here hx rfl (hb hby own_d17_21) (XS.aloadN X4.here hx rfl (hb hby own_d17_22) rfl rfl k)) ?_
  have f6 := (pr_A_a_1.ext E4)
  obtain ⟨q7, c7, R7, s7, t7⟩ := id f6
  refine own_go (fun _ k => X4.arraylength hx (by rw [e4]; exact R7.1) (State.isArrayOf_alike hZ.alike R7.2.1) (g := (mkF m 23 #[.val (.ref a_1), .val (.int 2), .val (.ref b4)] [(.ref a_1), (.int 0), (.ref b4), (.int 0), (.ref a_1)])) rfl rfl (hb hby own_d17_23) _ k) ?_
  rw [len_of s7 q7]
  show own_Go _ _ _ _ T4 (mkF m 24 #[.val (.ref a_1), .val (.int 2), .val (.ref b4)] [(.int 3), (.int 0), (.ref b4), (.int 0), (.ref a_1)])
  refine own_go (fun _ k => XS.iloadN X4.here hx rfl (hb hby own_d17_24) rfl k) ?_
  obtain ⟨_, _, ⟨T8, L8, k8, n8⟩, -, X8, ⟨Lc8, hQ8, l8, y8, z8⟩, st8⟩ := Jvm.LawKit.callS X4 hx (y := (⟨"java/lang/Math", "min", "(II)I"⟩ : MethodName)) hown (mvT hZ (hw _ (List.mem_of_getElem? (i := 99) rfl))) (mvT hZ (hw _ (List.mem_of_getElem? (i := 100) rfl))) (mvT hZ (own_w101 hw)) (mvT hZ (hw _ (List.mem_of_getElem? (i := 102) rfl))) (by decide) (backOf (W := 4) (own_rm18_s2 l Z a0 hw []   h4 n0 (by omega) ) hZ (hw _ (List.mem_of_getElem? (i := 102) rfl)) (own_w101 hw) (by decide) (by decide)) (g := (mkF m 25 #[.val (.ref a_1), .val (.int 2), .val (.ref b4)] [(.int 2), (.int 3), (.int 0), (.ref b4), (.int 0), (.ref a_1)])) rfl (by rw [hml]; rfl) (argsL := [(.int 3), (.int 2)]) (rest := [(.int 0), (.ref b4), (.int 0), (.ref a_1)]) (lenOf own_pd9 rfl) rfl (by show 2 * 0 + _ ≤ _; exact Nat.le_of_eq rfl) (hb hby own_d17_25) (fun _ _ => ⟨rfl, e4, (by decide : 1 + 0 ≤ _), (by decide : 2 + 0 ≤ _)⟩)
  dsimp only [Pt.U, Pt.locs, Pt.cells, Pt.slots] at X8 l8 y8 z8 st8 hQ8
  have y8 : k8 = 1 := y8
  have z8 : n8 = 2 := z8
  obtain ⟨rfl, N8q, e8⟩ := hQ8
  have N8 : Fr n0 L8 := by rw [l8]; exact Fr.app N0 N8q
  refine own_go (fun _ k => st8 _ k) ?_
  show own_Go _ _ _ _ T8 (mkF m 28 #[.val (.ref a_1), .val (.int 2), .val (.ref b4)] [(.int 2), (.int 0), (.ref b4), (.int 0), (.ref a_1)])
  obtain ⟨T9, h9, L9, X9, e9, N9, Kq9, V9, st9⟩ := own_cp X8 hx hZ hown (hw _ (List.mem_of_getElem? (i := 103) rfl)) (hw _ (List.mem_of_getElem? (i := 51) rfl)) (hw _ (List.mem_of_getElem? (i := 49) rfl)) (hw _ (List.mem_of_getElem? (i := 50) rfl)) e8 f6 V_b4 (own_updf (own_updf (own_updf (fun _ => rfl) rfl) rfl) rfl) (fun _ => rfl) (by decide) (by decide) (by decide) (by decide) (by decide) N8 (by omega) (g := (mkF m 28 #[.val (.ref a_1), .val (.int 2), .val (.ref b4)] [(.int 2), (.int 0), (.ref b4), (.int 0), (.ref a_1)])) rfl (by rw [hml]; rfl) rfl (hb hby own_d17_28) (by decide) (W := 0) (by show 2 * 0 + _ ≤ _; exact Nat.le_of_eq rfl) (by decide)
  have z10 := Kq9.1
  have K9 : Keep h0 h9 [] := K4.trans Kq9 (allS (Or.inr (by omega)) all0)
  have V9 : own_AV Z h9 b4 .int 2 (own_upd (own_upd (fun _ => (.int 0)) 0 (.int 0)) 1 (.int 0)) := own_AV.congr V9 (fun i _ => congrFun (own_cpf2) i)
  refine own_go (fun _ k => st9 _ k) ?_
  show own_Go _ _ _ _ T9 (mkF m 31 #[.val (.ref a_1), .val (.int 2), .val (.ref b4)] [])
  refine own_go (fun _ k => XS.aloadN X9.here hx rfl (hb hby own_d17_31) rfl rfl k) ?_
  show own_Go _ _ _ _ T9 (mkF m 32 #[.val (.ref a_1), .val (.int 2), .val (.ref b4)] [(.ref b4)])
  obtain ⟨fs, hr, hrun, hended, hW, hsame⟩ := X9.leave (v := some (.ref b4)) (fun h => by rw [Bd.returns] at h; cases h)
  refine ⟨_, _, retOut X9 hx Bd.returns rfl (Or.inr (Or.inr (Or.inr (Or.inr ⟨rfl, rfl, rfl⟩)))) (hb hby own_d17_32) hr, hrun, hended, _, _, rfl, ?_, ⟨_, rfl⟩, hW, hsame.mono (by rw [y8]; decide) (by rw [z8]; decide)⟩
  show own_Q17_s4 Z a_1 h0 n0 _ T9.heap _
  rw [e9]
  exact ⟨b4, rfl, N9, K9, V9, (by omega)⟩
theorem own_ef_own_rm16_s4 (m : MethodId) (x0 : Addr) (x1 : Addr) (x2 : Addr) (x4 : Addr) : entryFrame m #[(.ref x0), (.ref x1), (.ref x2), (.int 1), (.ref x4)] 8 = mkF m 0 #[.val (.ref x0), .val (.ref x1), .val (.ref x2), .val (.int 1), .val (.ref x4), .unset, .unset, .unset] [] := by first | (simp [entryFrame, mkF, argsToLocals, Value.category]; done) | rfl
def own_Q16_s4 (Z : State) (a_1 : Addr) (a_2 : Addr) (a_3 : Addr) (a_5 : Addr) (h0 : Heap) (n0 : Nat) (v : Option Value) (h : Heap) (L : List Loc) : Prop := ∃ (x_0 : Addr), v = some (.ref x_0) ∧ Fr n0 L ∧ Keep h0 h [a_5] ∧ own_AV Z h a_5 .int 3 (own_upd (own_upd (own_upd (fun _ => (.int 0)) 2 (.int 1)) 1 (.int 0)) 2 (.int 1)) ∧ own_AV Z h x_0 .int 1 (own_upd (fun _ => (.int 0)) 0 (.int 0)) ∧ (h0.size ≤ x_0)
set_option maxRecDepth 65536 in
set_option maxHeartbeats 40000000 in
theorem own_rm16_s4 (l : Launch) (Z : State) (a0 : Array Value) (hw : ∀ d ∈ tables_1, d.before a0 Z = true) (ws : List Jvm.Cond) (a_1 : Addr) (a_2 : Addr) (a_3 : Addr) (a_5 : Addr) (h0 : Heap) (n0 : Nat) (Z0 : n0 ≤ h0.size) (pr_A_a_2 : own_AV Z h0 a_2 .int 64 (own_upd (fun _ => (.int 0)) 0 (.int 1))) (pr_A_a_3 : own_AV Z h0 a_3 .int 1 (own_upd (fun _ => (.int 0)) 0 (.int 0))) (pr_A_a_5 : own_AV Z h0 a_5 .int 3 (fun _ => (.int 0))) (pr_F_a_1_variableCount : Fld Z h0 a_1 own_N1 "variableCount" "I" (.int 2)) (ho_ : own_lts [a_1, a_2, a_3, a_5]) (gw_a_5 : n0 ≤ a_5) :
    MetFree l (⟨own_N1, "groupByVariable", "([I[II[I)[I"⟩ : MethodName) (head1 (Jvm.Cond.code (⟨own_N1, "groupByVariable", "([I[II[I)[I"⟩ : MethodName) prog_6_method_18_code 8 (some (.array .int)) :: ws) ({ frames := 2, cells := 2, slots := 3, locals := 54 } : Room)) (fun a U => a = #[(.ref a_1), (.ref a_2), (.ref a_3), (.int 1), (.ref a_5)] ∧ Z.Warmed39 U.vm ∧ U.heap = h0) (fun _ _ _ _ _ => True) (fun _ U o U' => ∃ v L, o = .returned v ∧ own_Q16_s4 Z a_1 a_2 a_3 a_5 h0 n0 v U'.heap L ∧ FrameEnd U o U' L ({ frames := 2, cells := 2, slots := 3, locals := 54 } : Room).cells ({ frames := 2, cells := 2, slots := 3, locals := 54 } : Room).slots) := by
  refine MetFree.of_bodySF (plainFor_of_name own_pn0) hisR ?_
  intro p e s m args below meth c s₁ Bd hml0 hP hK
  obtain ⟨rfl, hZ, hh⟩ := hP
  have hx := Bd.exec
  have hby := Bd.bytes
  have hml : c.maxLocals = 8 := hml0
  have hown : s.vm.findClass own_N1 = some m.cls := findClass_of_methodNamed Bd.named
  have hnm := (name_of_methodNamed Bd.named Bd.method).1
  have X0 : Stand p l e ({ frames := 2, cells := 2, slots := 3, locals := 54 } : Room) s m #[(.ref a_1), (.ref a_2), (.ref a_3), (.int 1), (.ref a_5)] below meth c s₁ [] 0 0 := Stand.of_body Bd
  have e0 : s₁.heap = h0 := by rw [← hh, Bd.state]; rfl
  have N0 := Fr.nil n0
  have z0 : n0 ≤ h0.size := Z0
  have z1 := own_lt pr_A_a_2.lt
  have z2 := own_lt pr_A_a_3.lt
  have z3 := own_lt pr_A_a_5.lt
  have z4 := own_lt pr_F_a_1_variableCount.lt
  have ho5 := ho_
  simp only [own_lts, and_true] at ho5
  have K0 : Keep h0 h0 [a_5] := Keep.refl h0 _
  show own_Go p.tables e below (fun t o => t.status = .running ∧ Ended t below o ∧ ∃ v L, o = .returned v ∧ own_Q16_s4 Z a_1 a_2 a_3 a_5 h0 n0 v t.heap L ∧ FrameEnd s o t L ({ frames := 2, cells := 2, slots := 3, locals := 54 } : Room).cells ({ frames := 2, cells := 2, slots := 3, locals := 54 } : Room).slots) s₁ (entryFrame m #[(.ref a_1), (.ref a_2), (.ref a_3), (.int 1), (.ref a_5)] 8)
  rw [own_ef_own_rm16_s4 m a_1 a_2 a_3 a_5]
  show own_Go _ _ _ _ s₁ (mkF m 0 #[.val (.ref a_1), .val (.ref a_2), .val (.ref a_3), .val (.int 1), .val (.ref a_5), .unset, .unset, .unset] [])
  refine own_go (fun _ k => XS.iconst X0.here hx rfl (hb hby own_d16_0) (XS.istore X0.here hx rfl (hb hby own_d16_1) rfl (l' := #[.val (.ref a_1), .val (.ref a_2), .val (.ref a_3), .val (.int 1), .val (.ref a_5), .val (.int 0), .unset, .unset]) rfl (XS.iload X0.here hx rfl (hb hby own_d16_3) rfl (XS.iloadN X0.here hx rfl (hb hby own_d16_5) rfl k)))) ?_
  show own_Go _ _ _ _ s₁ (mkF m 6 #[.val (.ref a_1), .val (.ref a_2), .val (.ref a_3), .val (.int 1), .val (.ref a_5), .val (.int 0), .unset, .unset] [(.int 1), (.int 0)])
  have hc6 : (0 : Int32) < (1 : Int32) := by decide
  refine own_go (fun _ k => XS.icmpNo X0.here hx rfl (hb hby own_d16_6) rfl (Jvm.Free.XT.ii_ge_f hc6) (XS.aload X0.here hx rfl (hb hby own_d16_9) rfl rfl (XS.aloadN X0.here hx rfl (hb hby own_d16_11) rfl rfl (XS.iload X0.here hx rfl (hb hby own_d16_12) rfl k)))) ?_
  show own_Go _ _ _ _ s₁ (mkF m 14 #[.val (.ref a_1), .val (.ref a_2), .val (.ref a_3), .val (.int 1), .val (.ref a_5), .val (.int 0), .unset, .unset] [(.int 0), (.ref a_2), (.ref a_5)])
  obtain ⟨q7, c7, R7, s7, t7⟩ := id pr_A_a_2
  have hin7 : ¬ ((0 : Int32) < 0 ∨ c7.slots.size ≤ ((0 : Int32)).toNatClampNeg) := inb_of s7 ⟨by decide, by decide⟩
  have u7 : c7.slots[((0 : Int32)).toNatClampNeg]? = some (.int 1) := own_at (k := 0) t7 s7 hin7 (by decide) (rfl)
  refine own_go (fun _ k => X0.iaload hx (j := (0 : Int32)) (v := (.int 1)) (by rw [e0]; exact R7.1) (State.isArrayOf_alike hZ.alike R7.2.1) R7.2.2 hin7 u7 (g := (mkF m 14 #[.val (.ref a_1), .val (.ref a_2), .val (.ref a_3), .val (.int 1), .val (.ref a_5), .val (.int 0), .unset, .unset] [(.int 0), (.ref a_2), (.ref a_5)])) rfl rfl (hb hby own_d16_14) _ k) ?_
  show own_Go _ _ _ _ s₁ (mkF m 15 #[.val (.ref a_1), .val (.ref a_2), .val (.ref a_3), .val (.int 1), .val (.ref a_5), .val (.int 0), .unset, .unset] [(.int 1), (.ref a_5)])
  refine own_go (fun _ k => XS.iconst X0.here hx rfl (hb hby own_d16_15) (XS.iadd X0.here hx rfl (hb hby own_d16_16) rfl k)) ?_
  have sd8 : ∀ target, Steps p.tables e below (s₁.setTop (mkF m 18 #[.val (.ref a_1), .val (.ref a_2), .val (.ref a_3), .val (.int 1), .val (.ref a_5), .val (.int 0), .unset, .unset] [(.int 2), (.ref a_5), (.int 2), (.ref a_5)])) target → Steps p.tables e below (s₁.setTop (mkF m 17 #[.val (.ref a_1), .val (.ref a_2), .val (.ref a_3), .val (.int 1), .val (.ref a_5), .val (.int 0), .unset, .unset] [(.int 2), (.ref a_5)])) target := fun target kk => by
    jvm_step X0.here [X0.here.top, hx, (hb hby own_d16_17), Value.category]
    exact kk
  refine own_go (fun _ k => sd8 _ k) ?_
  show own_Go _ _ _ _ s₁ (mkF m 18 #[.val (.ref a_1), .val (.ref a_2), .val (.ref a_3), .val (.int 1), .val (.ref a_5), .val (.int 0), .unset, .unset] [(.int 2), (.ref a_5), (.int 2), (.ref a_5)])
  obtain ⟨q9, c9, R9, s9, t9⟩ := id pr_A_a_5
  have hin9 : ¬ ((2 : Int32) < 0 ∨ c9.slots.size ≤ ((2 : Int32)).toNatClampNeg) := inb_of s9 ⟨by decide, by decide⟩
  have u9 : c9.slots[((2 : Int32)).toNatClampNeg]? = some (.int 0) := own_at (k := 2) t9 s9 hin9 (by decide) (rfl)
  refine own_go (fun _ k => X0.iaload hx (j := (2 : Int32)) (v := (.int 0)) (by rw [e0]; exact R9.1) (State.isArrayOf_alike hZ.alike R9.2.1) R9.2.2 hin9 u9 (g := (mkF m 18 #[.val (.ref a_1), .val (.ref a_2), .val (.ref a_3), .val (.int 1), .val (.ref a_5), .val (.int 0), .unset, .unset] [(.int 2), (.ref a_5), (.int 2), (.ref a_5)])) rfl rfl (hb hby own_d16_18) _ k) ?_
  show own_Go _ _ _ _ s₁ (mkF m 19 #[.val (.ref a_1), .val (.ref a_2), .val (.ref a_3), .val (.int 1), .val (.ref a_5), .val (.int 0), .unset, .unset] [(.int 0), (.int 2), (.ref a_5)])
  refine own_go (fun _ k => XS.iconst X0.here hx rfl (hb hby own_d16_19) (XS.iadd X0.here hx rfl (hb hby own_d16_20) rfl k)) ?_
  obtain ⟨q10, c10, R10, s10, t10⟩ := id pr_A_a_5
  have hin10 : ¬ ((2 : Int32) < 0 ∨ c10.slots.size ≤ ((2 : Int32)).toNatClampNeg) := inb_of s10 ⟨by decide, by decide⟩
  obtain ⟨T11, h11, X11, e11, W11, st11⟩ := stI X0 hx hZ e0 R10 (j := (2 : Int32)) hin10 (g := (mkF m 21 #[.val (.ref a_1), .val (.ref a_2), .val (.ref a_3), .val (.int 1), .val (.ref a_5), .val (.int 0), .unset, .unset] [(.int 1), (.int 2), (.ref a_5)])) rfl rfl (hb hby own_d16_21)
  have V11 : own_AV Z h11 a_5 .int 3 (own_upd (fun _ => (.int 0)) 2 (.int 1)) := own_AV.set (k := 2) pr_A_a_5 W11 (by decide)
  have z12 := W11.size
  have K11 : Keep h0 h11 [a_5] := K0.wr W11 (Or.inl (List.mem_of_getElem? (i := 0) rfl))
  have N11 := Fr.snoc X11 N0 (by omega : n0 ≤ a_5)
  refine own_go (fun _ k => st11 _ k) ?_
  show own_Go _ _ _ _ T11 (mkF m 22 #[.val (.ref a_1), .val (.ref a_2), .val (.ref a_3), .val (.int 1), .val (.ref a_5), .val (.int 0), .unset, .unset] [])
  refine own_go (fun _ k => XS.iinc X11.here hx rfl (hb hby own_d16_22) rfl (l' := #[.val (.ref a_1), .val (.ref a_2), .val (.ref a_3), .val (.int 1), .val (.ref a_5), .val (.int 1), .unset, .unset]) rfl (XS.goto X11.here hx rfl (pc0 := 25) (pc' := 3) rfl (hb hby own_d16_25) (by decide) (by decide) (XS.iload X11.here hx rfl (hb hby own_d16_3) rfl (XS.iloadN X11.here hx rfl (hb hby own_d16_5) rfl k)))) ?_
  show own_Go _ _ _ _ T11 (mkF m 6 #[.val (.ref a_1), .val (.ref a_2), .val (.ref a_3), .val (.int 1), .val (.ref a_5), .val (.int 1), .unset, .unset] [(.int 1), (.int 1)])
  have hc13 : ¬ ((1 : Int32) < (1 : Int32)) := by decide
  refine own_go (fun _ k => XS.icmpYes X11.here hx rfl (pc0 := 6) (pc' := 28) rfl (hb hby own_d16_6) rfl (Jvm.Free.XT.ii_ge_t hc13) (by decide) (by decide) (XS.iconst X11.here hx rfl (hb hby own_d16_28) (XS.istore X11.here hx rfl (hb hby own_d16_29) rfl (l' := #[.val (.ref a_1), .val (.ref a_2), .val (.ref a_3), .val (.int 1), .val (.ref a_5), .val (.int 0), .unset, .unset]) rfl (XS.iload X11.here hx rfl (hb hby own_d16_31) rfl k)))) ?_
  show own_Go _ _ _ _ T11 (mkF m 33 #[.val (.ref a_1), .val (.ref a_2), .val (.ref a_3), .val (.int 1), .val (.ref a_5), .val (.int 0), .unset, .unset] [(.int 0)])
  refine own_go (fun _ k => XS.aloadN X11.here hx rfl (hb hby own_d16_33) rfl rfl k) ?_
  have f14 := (pr_F_a_1_variableCount.other W11 (Or.inl (own_ne (by omega))))
  obtain ⟨T15, X15, e15, st15⟩ := getF X11 hx hZ hown (host := "") (Or.inl (own_w23 hw)) Via.refl e11 f14 (g := (mkF m 34 #[.val (.ref a_1), .val (.ref a_2), .val (.ref a_3), .val (.int 1), .val (.ref a_5), .val (.int 0), .unset, .unset] [(.ref a_1), (.int 0)])) rfl rfl (hb hby own_d16_34)
  refine own_go (fun _ k => st15 _ k) ?_
  show own_Go _ _ _ _ T15 (mkF m 37 #[.val (.ref a_1), .val (.ref a_2), .val (.ref a_3), .val (.int 1), .val (.ref a_5), .val (.int 0), .unset, .unset] [(.int 2), (.int 0)])
  have hc16 : (0 : Int32) < (2 : Int32) := by decide
  refine own_go (fun _ k => XS.icmpNo X15.here hx rfl (hb hby own_d16_37) rfl (Jvm.Free.XT.ii_ge_f hc16) (XS.aload X15.here hx rfl (hb hby own_d16_40) rfl rfl (XS.iload X15.here hx rfl (hb hby own_d16_42) rfl (XS.iconst X15.here hx rfl (hb hby own_d16_44) k)))) ?_
  show own_Go _ _ _ _ T15 (mkF m 45 #[.val (.ref a_1), .val (.ref a_2), .val (.ref a_3), .val (.int 1), .val (.ref a_5), .val (.int 0), .unset, .unset] [(.int 1), (.int 0), (.ref a_5)])
  refine own_go (fun _ k => XS.iadd X15.here hx rfl (hb hby own_d16_45) rfl k) ?_
  have sd17 : ∀ target, Steps p.tables e below (T15.setTop (mkF m 47 #[.val (.ref a_1), .val (.ref a_2), .val (.ref a_3), .val (.int 1), .val (.ref a_5), .val (.int 0), .unset, .unset] [(.int 1), (.ref a_5), (.int 1), (.ref a_5)])) target → Steps p.tables e below (T15.setTop (mkF m 46 #[.val (.ref a_1), .val (.ref a_2), .val (.ref a_3), .val (.int 1), .val (.ref a_5), .val (.int 0), .unset, .unset] [(.int 1), (.ref a_5)])) target := fun target kk => by
    jvm_step X15.here [X15.here.top, hx, (hb hby own_d16_46), Value.category]
    exact kk
  refine own_go (fun _ k => sd17 _ k) ?_
  show own_Go _ _ _ _ T15 (mkF m 47 #[.val (.ref a_1), .val (.ref a_2), .val (.ref a_3), .val (.int 1), .val (.ref a_5), .val (.int 0), .unset, .unset] [(.int 1), (.ref a_5), (.int 1), (.ref a_5)])
  obtain ⟨q18, c18, R18, s18, t18⟩ := id V11
  have hin18 : ¬ ((1 : Int32) < 0 ∨ c18.slots.size ≤ ((1 : Int32)).toNatClampNeg) := inb_of s18 ⟨by decide, by decide⟩
  have u18 : c18.slots[((1 : Int32)).toNatClampNeg]? = some (.int 0) := own_at (k := 1) t18 s18 hin18 (by decide) (rfl)
  refine own_go (fun _ k => X15.iaload hx (j := (1 : Int32)) (v := (.int 0)) (by rw [e15]; exact R18.1) (State.isArrayOf_alike hZ.alike R18.2.1) R18.2.2 hin18 u18 (g := (mkF m 47 #[.val (.ref a_1), .val (.ref a_2), .val (.ref a_3), .val (.int 1), .val (.ref a_5), .val (.int 0), .unset, .unset] [(.int 1), (.ref a_5), (.int 1), (.ref a_5)])) rfl rfl (hb hby own_d16_47) _ k) ?_
  show own_Go _ _ _ _ T15 (mkF m 48 #[.val (.ref a_1), .val (.ref a_2), .val (.ref a_3), .val (.int 1), .val (.ref a_5), .val (.int 0), .unset, .unset] [(.int 0), (.int 1), (.ref a_5)])
  refine own_go (fun _ k => XS.aload X15.here hx rfl (hb hby own_d16_48) rfl rfl (XS.iload X15.here hx rfl (hb hby own_d16_50) rfl k)) ?_
  obtain ⟨q19, c19, R19, s19, t19⟩ := id V11
  have hin19 : ¬ ((0 : Int32) < 0 ∨ c19.slots.size ≤ ((0 : Int32)).toNatClampNeg) := inb_of s19 ⟨by decide, by decide⟩
  have u19 : c19.slots[((0 : Int32)).toNatClampNeg]? = some (.int 0) := own_at (k := 0) t19 s19 hin19 (by decide) (rfl)
  refine own_go (fun _ k => X15.iaload hx (j := (0 : Int32)) (v := (.int 0)) (by rw [e15]; exact R19.1) (State.isArrayOf_alike hZ.alike R19.2.1) R19.2.2 hin19 u19 (g := (mkF m 52 #[.val (.ref a_1), .val (.ref a_2), .val (.ref a_3), .val (.int 1), .val (.ref a_5), .val (.int 0), .unset, .unset] [(.int 0), (.ref a_5), (.int 0), (.int 1), (.ref a_5)])) rfl rfl (hb hby own_d16_52) _ k) ?_
  show own_Go _ _ _ _ T15 (mkF m 53 #[.val (.ref a_1), .val (.ref a_2), .val (.ref a_3), .val (.int 1), .val (.ref a_5), .val (.int 0), .unset, .unset] [(.int 0), (.int 0), (.int 1), (.ref a_5)])
  refine own_go (fun _ k => XS.iadd X15.here hx rfl (hb hby own_d16_53) rfl k) ?_
  obtain ⟨q20, c20, R20, s20, t20⟩ := id V11
  have hin20 : ¬ ((1 : Int32) < 0 ∨ c20.slots.size ≤ ((1 : Int32)).toNatClampNeg) := inb_of s20 ⟨by decide, by decide⟩
  obtain ⟨T21, h21, X21, e21, W21, st21⟩ := stI X15 hx hZ e15 R20 (j := (1 : Int32)) hin20 (g := (mkF m 54 #[.val (.ref a_1), .val (.ref a_2), .val (.ref a_3), .val (.int 1), .val (.ref a_5), .val (.int 0), .unset, .unset] [(.int 0), (.int 1), (.ref a_5)])) rfl rfl (hb hby own_d16_54)
  have V21 : own_AV Z h21 a_5 .int 3 (own_upd (own_upd (fun _ => (.int 0)) 2 (.int 1)) 1 (.int 0)) := own_AV.set (k := 1) V11 W21 (by decide)
  have z22 := W21.size
  have K21 : Keep h0 h21 [a_5] := K11.wr W21 (Or.inl (List.mem_of_getElem? (i := 0) rfl))
  have N21 := Fr.snoc X21 N11 (by omega : n0 ≤ a_5)
  refine own_go (fun _ k => st21 _ k) ?_
  show own_Go _ _ _ _ T21 (mkF m 55 #[.val (.ref a_1), .val (.ref a_2), .val (.ref a_3), .val (.int 1), .val (.ref a_5), .val (.int 0), .unset, .unset] [])
  refine own_go (fun _ k => XS.iinc X21.here hx rfl (hb hby own_d16_55) rfl (l' := #[.val (.ref a_1), .val (.ref a_2), .val (.ref a_3), .val (.int 1), .val (.ref a_5), .val (.int 1), .unset, .unset]) rfl (XS.goto X21.here hx rfl (pc0 := 58) (pc' := 31) rfl (hb hby own_d16_58) (by decide) (by decide) (XS.iload X21.here hx rfl (hb hby own_d16_31) rfl (XS.aloadN X21.here hx rfl (hb hby own_d16_33) rfl rfl k)))) ?_
  show own_Go _ _ _ _ T21 (mkF m 34 #[.val (.ref a_1), .val (.ref a_2), .val (.ref a_3), .val (.int 1), .val (.ref a_5), .val (.int 1), .unset, .unset] [(.ref a_1), (.int 1)])
  have f23 := (f14.other W21 (Or.inl (own_ne (by omega))))
  obtain ⟨T24, X24, e24, st24⟩ := getF X21 hx hZ hown (host := "") (Or.inl (own_w23 hw)) Via.refl e21 f23 (g := (mkF m 34 #[.val (.ref a_1), .val (.ref a_2), .val (.ref a_3), .val (.int 1), .val (.ref a_5), .val (.int 1), .unset, .unset] [(.ref a_1), (.int 1)])) rfl rfl (hb hby own_d16_34)
  refine own_go (fun _ k => st24 _ k) ?_
  show own_Go _ _ _ _ T24 (mkF m 37 #[.val (.ref a_1), .val (.ref a_2), .val (.ref a_3), .val (.int 1), .val (.ref a_5), .val (.int 1), .unset, .unset] [(.int 2), (.int 1)])
  have hc25 : (1 : Int32) < (2 : Int32) := by decide
  refine own_go (fun _ k => XS.icmpNo X24.here hx rfl (hb hby own_d16_37) rfl (Jvm.Free.XT.ii_ge_f hc25) (XS.aload X24.here hx rfl (hb hby own_d16_40) rfl rfl (XS.iload X24.here hx rfl (hb hby own_d16_42) rfl (XS.iconst X24.here hx rfl (hb hby own_d16_44) k)))) ?_
  show own_Go _ _ _ _ T24 (mkF m 45 #[.val (.ref a_1), .val (.ref a_2), .val (.ref a_3), .val (.int 1), .val (.ref a_5), .val (.int 1), .unset, .unset] [(.int 1), (.int 1), (.ref a_5)])
  refine own_go (fun _ k => XS.iadd X24.here hx rfl (hb hby own_d16_45) rfl k) ?_
  have sd26 : ∀ target, Steps p.tables e below (T24.setTop (mkF m 47 #[.val (.ref a_1), .val (.ref a_2), .val (.ref a_3), .val (.int 1), .val (.ref a_5), .val (.int 1), .unset, .unset] [(.int 2), (.ref a_5), (.int 2), (.ref a_5)])) target → Steps p.tables e below (T24.setTop (mkF m 46 #[.val (.ref a_1), .val (.ref a_2), .val (.ref a_3), .val (.int 1), .val (.ref a_5), .val (.int 1), .unset, .unset] [(.int 2), (.ref a_5)])) target := fun target kk => by
    jvm_step X24.here [X24.here.top, hx, (hb hby own_d16_46), Value.category]
    exact kk
  refine own_go (fun _ k => sd26 _ k) ?_
  show own_Go _ _ _ _ T24 (mkF m 47 #[.val (.ref a_1), .val (.ref a_2), .val (.ref a_3), .val (.int 1), .val (.ref a_5), .val (.int 1), .unset, .unset] [(.int 2), (.ref a_5), (.int 2), (.ref a_5)])
  obtain ⟨q27, c27, R27, s27, t27⟩ := id V21
  have hin27 : ¬ ((2 : Int32) < 0 ∨ c27.slots.size ≤ ((2 : Int32)).toNatClampNeg) := inb_of s27 ⟨by decide, by decide⟩
  have u27 : c27.slots[((2 : Int32)).toNatClampNeg]? = some (.int 1) := own_at (k := 2) t27 s27 hin27 (by decide) (rfl)
  refine own_go (fun _ k => X24.iaload hx (j := (2 : Int32)) (v := (.int 1)) (by rw [e24]; exact R27.1) (State.isArrayOf_alike hZ.alike R27.2.1) R27.2.2 hin27 u27 (g := (mkF m 47 #[.val (.ref a_1), .val (.ref a_2), .val (.ref a_3), .val (.int 1), .val (.ref a_5), .val (.int 1), .unset, .unset] [(.int 2), (.ref a_5), (.int 2), (.ref a_5)])) rfl rfl (hb hby own_d16_47) _ k) ?_
  show own_Go _ _ _ _ T24 (mkF m 48 #[.val (.ref a_1), .val (.ref a_2), .val (.ref a_3), .val (.int 1), .val (.ref a_5), .val (.int 1), .unset, .unset] [(.int 1), (.int 2), (.ref a_5)])
  refine own_go (fun _ k => XS.aload X24.here hx rfl (hb hby own_d16_48) rfl rfl (XS.iload X24.here hx rfl (hb hby own_d16_50) rfl k)) ?_
  obtain ⟨q28, c28, R28, s28, t28⟩ := id V21
  have hin28 : ¬ ((1 : Int32) < 0 ∨ c28.slots.size ≤ ((1 : Int32)).toNatClampNeg) := inb_of s28 ⟨by decide, by decide⟩
  have u28 : c28.slots[((1 : Int32)).toNatClampNeg]? = some (.int 0) := own_at (k := 1) t28 s28 hin28 (by decide) (rfl)
  refine own_go (fun _ k => X24.iaload hx (j := (1 : Int32)) (v := (.int 0)) (by rw [e24]; exact R28.1) (State.isArrayOf_alike hZ.alike R28.2.1) R28.2.2 hin28 u28 (g := (mkF m 52 #[.val (.ref a_1), .val (.ref a_2), .val (.ref a_3), .val (.int 1), .val (.ref a_5), .val (.int 1), .unset, .unset] [(.int 1), (.ref a_5), (.int 1), (.int 2), (.ref a_5)])) rfl rfl (hb hby own_d16_52) _ k) ?_
  show own_Go _ _ _ _ T24 (mkF m 53 #[.val (.ref a_1), .val (.ref a_2), .val (.ref a_3), .val (.int 1), .val (.ref a_5), .val (.int 1), .unset, .unset] [(.int 0), (.int 1), (.int 2), (.ref a_5)])
  refine own_go (fun _ k => XS.iadd X24.here hx rfl (hb hby own_d16_53) rfl k) ?_
  obtain ⟨q29, c29, R29, s29, t29⟩ := id V21
  have hin29 : ¬ ((2 : Int32) < 0 ∨ c29.slots.size ≤ ((2 : Int32)).toNatClampNeg) := inb_of s29 ⟨by decide, by decide⟩
  obtain ⟨T30, h30, X30, e30, W30, st30⟩ := stI X24 hx hZ e24 R29 (j := (2 : Int32)) hin29 (g := (mkF m 54 #[.val (.ref a_1), .val (.ref a_2), .val (.ref a_3), .val (.int 1), .val (.ref a_5), .val (.int 1), .unset, .unset] [(.int 1), (.int 2), (.ref a_5)])) rfl rfl (hb hby own_d16_54)
  have V30 : own_AV Z h30 a_5 .int 3 (own_upd (own_upd (own_upd (fun _ => (.int 0)) 2 (.int 1)) 1 (.int 0)) 2 (.int 1)) := own_AV.set (k := 2) V21 W30 (by decide)
  have z31 := W30.size
  have K30 : Keep h0 h30 [a_5] := K21.wr W30 (Or.inl (List.mem_of_getElem? (i := 0) rfl))
  have N30 := Fr.snoc X30 N21 (by omega : n0 ≤ a_5)
  refine own_go (fun _ k => st30 _ k) ?_
  show own_Go _ _ _ _ T30 (mkF m 55 #[.val (.ref a_1), .val (.ref a_2), .val (.ref a_3), .val (.int 1), .val (.ref a_5), .val (.int 1), .unset, .unset] [])
  refine own_go (fun _ k => XS.iinc X30.here hx rfl (hb hby own_d16_55) rfl (l' := #[.val (.ref a_1), .val (.ref a_2), .val (.ref a_3), .val (.int 1), .val (.ref a_5), .val (.int 2), .unset, .unset]) rfl (XS.goto X30.here hx rfl (pc0 := 58) (pc' := 31) rfl (hb hby own_d16_58) (by decide) (by decide) (XS.iload X30.here hx rfl (hb hby own_d16_31) rfl (XS.aloadN X30.here hx rfl (hb hby own_d16_33) rfl rfl k)))) ?_
  show own_Go _ _ _ _ T30 (mkF m 34 #[.val (.ref a_1), .val (.ref a_2), .val (.ref a_3), .val (.int 1), .val (.ref a_5), .val (.int 2), .unset, .unset] [(.ref a_1), (.int 2)])
  have f32 := (f23.other W30 (Or.inl (own_ne (by omega))))
  obtain ⟨T33, X33, e33, st33⟩ := getF X30 hx hZ hown (host := "") (Or.inl (own_w23 hw)) Via.refl e30 f32 (g := (mkF m 34 #[.val (.ref a_1), .val (.ref a_2), .val (.ref a_3), .val (.int 1), .val (.ref a_5), .val (.int 2), .unset, .unset] [(.ref a_1), (.int 2)])) rfl rfl (hb hby own_d16_34)
  refine own_go (fun _ k => st33 _ k) ?_
  show own_Go _ _ _ _ T33 (mkF m 37 #[.val (.ref a_1), .val (.ref a_2), .val (.ref a_3), .val (.int 1), .val (.ref a_5), .val (.int 2), .unset, .unset] [(.int 2), (.int 2)])
  have hc34 : ¬ ((2 : Int32) < (2 : Int32)) := by decide
  refine own_go (fun _ k => XS.icmpYes X33.here hx rfl (pc0 := 37) (pc' := 61) rfl (hb hby own_d16_37) rfl (Jvm.Free.XT.ii_ge_t hc34) (by decide) (by decide) (XS.aload X33.here hx rfl (hb hby own_d16_61) rfl rfl (XS.aloadN X33.here hx rfl (hb hby own_d16_63) rfl rfl k))) ?_
  obtain ⟨T35, X35, e35, st35⟩ := getF X33 hx hZ hown (host := "") (Or.inl (own_w23 hw)) Via.refl e33 f32 (g := (mkF m 64 #[.val (.ref a_1), .val (.ref a_2), .val (.ref a_3), .val (.int 1), .val (.ref a_5), .val (.int 2), .unset, .unset] [(.ref a_1), (.ref a_5)])) rfl rfl (hb hby own_d16_64)
  refine own_go (fun _ k => st35 _ k) ?_
  show own_Go _ _ _ _ T35 (mkF m 67 #[.val (.ref a_1), .val (.ref a_2), .val (.ref a_3), .val (.int 1), .val (.ref a_5), .val (.int 2), .unset, .unset] [(.int 2), (.ref a_5)])
  obtain ⟨_, _, ⟨T36, L36, k36, n36⟩, -, X36, ⟨Lc36, hQ36, l36, y36, z36⟩, st36⟩ := Jvm.LawKit.callS X35 hx (y := (⟨"java/util/Arrays", "copyOf", "([II)[I"⟩ : MethodName)) hown (mvT hZ (hw _ (List.mem_of_getElem? (i := 96) rfl))) (mvT hZ (hw _ (List.mem_of_getElem? (i := 97) rfl))) (mvT hZ (own_w72 hw)) (mvT hZ (hw _ (List.mem_of_getElem? (i := 98) rfl))) (by decide) (backOf (W := 0) (own_rm17_s4 l Z a0 hw [] a_5  h30 n0 (by omega) V30) hZ (hw _ (List.mem_of_getElem? (i := 98) rfl)) (own_w72 hw) (by decide) (by decide)) (g := (mkF m 67 #[.val (.ref a_1), .val (.ref a_2), .val (.ref a_3), .val (.int 1), .val (.ref a_5), .val (.int 2), .unset, .unset] [(.int 2), (.ref a_5)])) rfl (by rw [hml]; rfl) (argsL := [(.ref a_5), (.int 2)]) (rest := []) (lenOf own_pd10 rfl) rfl (by show 2 * 0 + _ ≤ _; exact Nat.le_of_eq rfl) (hb hby own_d16_67) (fun _ _ => ⟨rfl, e35, (by decide : 0 + 1 ≤ _), (by decide : 0 + 2 ≤ _)⟩)
  dsimp only [Pt.U, Pt.locs, Pt.cells, Pt.slots] at X36 l36 y36 z36 st36 hQ36
  have y36 : k36 = 1 := y36
  have z36 : n36 = 2 := z36
  obtain ⟨x_37, rfl, N36q, K36q, f38, f39⟩ := hQ36
  have N36 : Fr n0 L36 := by rw [l36]; exact Fr.app N30 N36q
  have z40 := K36q.1
  have K36 : Keep h0 T36.heap [a_5] := K30.trans K36q all0
  have z41 := own_lt f38.lt
  refine own_go (fun _ k => st36 _ k) ?_
  show own_Go _ _ _ _ T36 (mkF m 70 #[.val (.ref a_1), .val (.ref a_2), .val (.ref a_3), .val (.int 1), .val (.ref a_5), .val (.int 2), .unset, .unset] [(.ref x_37)])
  refine own_go (fun _ k => XS.astore X36.here hx rfl (hb hby own_d16_70) rfl rfl (l' := #[.val (.ref a_1), .val (.ref a_2), .val (.ref a_3), .val (.int 1), .val (.ref a_5), .val (.ref x_37), .unset, .unset]) rfl (XS.iloadN X36.here hx rfl (hb hby own_d16_72) rfl k)) ?_
  obtain ⟨T42, h42, k42, X42, e42, E42, A42, st42⟩ := newP X36 hx hZ (hw _ (List.mem_of_getElem? (i := 9) rfl)) rfl (g := (mkF m 73 #[.val (.ref a_1), .val (.ref a_2), .val (.ref a_3), .val (.int 1), .val (.ref a_5), .val (.ref x_37), .unset, .unset] [(.int 1)])) rfl (hb hby own_d16_73) rfl (by decide) (cap := 1) (by decide) (by decide) (by rw [y36]; decide) (by rw [z36]; decide)
  obtain ⟨b42, g42⟩ : ∃ z, z = T36.heap.size := ⟨_, rfl⟩
  rw [← g42] at A42 st42
  have z43 := E42.1
  have lt_b42 := own_lt A42.lt
  have K42 : Keep h0 h42 [a_5] := K36.ext E42
  have V_b42 : own_AV Z h42 b42 .int 1 (fun _ => (.int 0)) := own_AV.new A42 (by decide)
  refine own_go (fun _ k => st42 _ k) ?_
  show own_Go _ _ _ _ T42 (mkF m 75 #[.val (.ref a_1), .val (.ref a_2), .val (.ref a_3), .val (.int 1), .val (.ref a_5), .val (.ref x_37), .unset, .unset] [(.ref b42)])
  refine own_go (fun _ k => XS.astore X42.here hx rfl (hb hby own_d16_75) rfl rfl (l' := #[.val (.ref a_1), .val (.ref a_2), .val (.ref a_3), .val (.int 1), .val (.ref a_5), .val (.ref x_37), .val (.ref b42), .unset]) rfl (XS.iconst X42.here hx rfl (hb hby own_d16_77) (XS.istore X42.here hx rfl (hb hby own_d16_78) rfl (l' := #[.val (.ref a_1), .val (.ref a_2), .val (.ref a_3), .val (.int 1), .val (.ref a_5), .val (.ref x_37), .val (.ref b42), .val (.int 0)]) rfl (XS.iload X42.here hx rfl (hb hby own_d16_80) rfl k)))) ?_
  show own_Go _ _ _ _ T42 (mkF m 82 #[.val (.ref a_1), .val (.ref a_2), .val (.ref a_3), .val (.int 1), .val (.ref a_5), .val (.ref x_37), .val (.ref b42), .val (.int 0)] [(.int 0)])
  refine own_go (fun _ k => XS.iloadN X42.here hx rfl (hb hby own_d16_82) rfl k) ?_
  have hc44 : (0 : Int32) < (1 : Int32) := by decide
  refine own_go (fun _ k => XS.icmpNo X42.here hx rfl (hb hby own_d16_83) rfl (Jvm.Free.XT.ii_ge_f hc44) (XS.aload X42.here hx rfl (hb hby own_d16_86) rfl rfl (XS.aload X42.here hx rfl (hb hby own_d16_88) rfl rfl (XS.aloadN X42.here hx rfl (hb hby own_d16_90) rfl rfl k)))) ?_
  show own_Go _ _ _ _ T42 (mkF m 91 #[.val (.ref a_1), .val (.ref a_2), .val (.ref a_3), .val (.int 1), .val (.ref a_5), .val (.ref x_37), .val (.ref b42), .val (.int 0)] [(.ref a_2), (.ref x_37), (.ref b42)])
  refine own_go (fun _ k => XS.iload X42.here hx rfl (hb hby own_d16_91) rfl k) ?_
  have f45 := (((((pr_A_a_2.other W11 (own_ne (by omega))).other W21 (own_ne (by omega))).other W30 (own_ne (by omega))).keep K36q nin0).ext E42)
  obtain ⟨q46, c46, R46, s46, t46⟩ := id f45
  have hin46 : ¬ ((0 : Int32) < 0 ∨ c46.slots.size ≤ ((0 : Int32)).toNatClampNeg) := inb_of s46 ⟨by decide, by decide⟩
  have u46 : c46.slots[((0 : Int32)).toNatClampNeg]? = some (.int 1) := own_at (k := 0) t46 s46 hin46 (by decide) (rfl)
  refine own_go (fun _ k => X42.iaload hx (j := (0 : Int32)) (v := (.int 1)) (by rw [e42]; exact R46.1) (State.isArrayOf_alike hZ.alike R46.2.1) R46.2.2 hin46 u46 (g := (mkF m 93 #[.val (.ref a_1), .val (.ref a_2), .val (.ref a_3), .val (.int 1), .val (.ref a_5), .val (.ref x_37), .val (.ref b42), .val (.int 0)] [(.int 0), (.ref a_2), (.ref x_37), (.ref b42)])) rfl rfl (hb hby own_d16_93) _ k) ?_
  show own_Go _ _ _ _ T42 (mkF m 94 #[.val (.ref a_1), .val (.ref a_2), .val (.ref a_3), .val (.int 1), .val (.ref a_5), .val (.ref x_37), .val (.ref b42), .val (.int 0)] [(.int 1), (.ref x_37), (.ref b42)])
  have f47 := (f38.ext E42)
  obtain ⟨q48, c48, R48, s48, t48⟩ := id f47
  have hin48 : ¬ ((1 : Int32) < 0 ∨ c48.slots.size ≤ ((1 : Int32)).toNatClampNeg) := inb_of s48 ⟨by decide, by decide⟩
  have u48 : c48.slots[((1 : Int32)).toNatClampNeg]? = some (.int 0) := own_at (k := 1) t48 s48 hin48 (by decide) (rfl)
  refine own_go (fun _ k => X42.iaload hx (j := (1 : Int32)) (v := (.int 0)) (by rw [e42]; exact R48.1) (State.isArrayOf_alike hZ.alike R48.2.1) R48.2.2 hin48 u48 (g := (mkF m 94 #[.val (.ref a_1), .val (.ref a_2), .val (.ref a_3), .val (.int 1), .val (.ref a_5), .val (.ref x_37), .val (.ref b42), .val (.int 0)] [(.int 1), (.ref x_37), (.ref b42)])) rfl rfl (hb hby own_d16_94) _ k) ?_
  show own_Go _ _ _ _ T42 (mkF m 95 #[.val (.ref a_1), .val (.ref a_2), .val (.ref a_3), .val (.int 1), .val (.ref a_5), .val (.ref x_37), .val (.ref b42), .val (.int 0)] [(.int 0), (.ref b42)])
  refine own_go (fun _ k => XS.aloadN X42.here hx rfl (hb hby own_d16_95) rfl rfl (XS.iload X42.here hx rfl (hb hby own_d16_96) rfl k)) ?_
  have f49 := (((((pr_A_a_3.other W11 (own_ne (by omega))).other W21 (own_ne (by omega))).other W30 (own_ne (by omega))).keep K36q nin0).ext E42)
  obtain ⟨q50, c50, R50, s50, t50⟩ := id f49
  have hin50 : ¬ ((0 : Int32) < 0 ∨ c50.slots.size ≤ ((0 : Int32)).toNatClampNeg) := inb_of s50 ⟨by decide, by decide⟩
  have u50 : c50.slots[((0 : Int32)).toNatClampNeg]? = some (.int 0) := own_at (k := 0) t50 s50 hin50 (by decide) (rfl)
  refine own_go (fun _ k => X42.iaload hx (j := (0 : Int32)) (v := (.int 0)) (by rw [e42]; exact R50.1) (State.isArrayOf_alike hZ.alike R50.2.1) R50.2.2 hin50 u50 (g := (mkF m 98 #[.val (.ref a_1), .val (.ref a_2), .val (.ref a_3), .val (.int 1), .val (.ref a_5), .val (.ref x_37), .val (.ref b42), .val (.int 0)] [(.int 0), (.ref a_3), (.int 0), (.ref b42)])) rfl rfl (hb hby own_d16_98) _ k) ?_
  show own_Go _ _ _ _ T42 (mkF m 99 #[.val (.ref a_1), .val (.ref a_2), .val (.ref a_3), .val (.int 1), .val (.ref a_5), .val (.ref x_37), .val (.ref b42), .val (.int 0)] [(.int 0), (.int 0), (.ref b42)])
  obtain ⟨q51, c51, R51, s51, t51⟩ := id V_b42
  have hin51 : ¬ ((0 : Int32) < 0 ∨ c51.slots.size ≤ ((0 : Int32)).toNatClampNeg) := inb_of s51 ⟨by decide, by decide⟩
  obtain ⟨T52, h52, X52, e52, W52, st52⟩ := stI X42 hx hZ e42 R51 (j := (0 : Int32)) hin51 (g := (mkF m 99 #[.val (.ref a_1), .val (.ref a_2), .val (.ref a_3), .val (.int 1), .val (.ref a_5), .val (.ref x_37), .val (.ref b42), .val (.int 0)] [(.int 0), (.int 0), (.ref b42)])) rfl rfl (hb hby own_d16_99)
  have V52 : own_AV Z h52 b42 .int 1 (own_upd (fun _ => (.int 0)) 0 (.int 0)) := own_AV.set (k := 0) V_b42 W52 (by decide)
  have z53 := W52.size
  have K52 : Keep h0 h52 [a_5] := K42.wr W52 (Or.inr (by omega))
  have N52 := Fr.snoc X52 N36 (by omega : n0 ≤ b42)
  refine own_go (fun _ k => st52 _ k) ?_
  show own_Go _ _ _ _ T52 (mkF m 100 #[.val (.ref a_1), .val (.ref a_2), .val (.ref a_3), .val (.int 1), .val (.ref a_5), .val (.ref x_37), .val (.ref b42), .val (.int 0)] [])
  refine own_go (fun _ k => XS.aload X52.here hx rfl (hb hby own_d16_100) rfl rfl (XS.aloadN X52.here hx rfl (hb hby own_d16_102) rfl rfl (XS.iload X52.here hx rfl (hb hby own_d16_103) rfl k))) ?_
  have f54 := (f45.other W52 (own_ne (by omega)))
  obtain ⟨q55, c55, R55, s55, t55⟩ := id f54
  have hin55 : ¬ ((0 : Int32) < 0 ∨ c55.slots.size ≤ ((0 : Int32)).toNatClampNeg) := inb_of s55 ⟨by decide, by decide⟩
  have u55 : c55.slots[((0 : Int32)).toNatClampNeg]? = some (.int 1) := own_at (k := 0) t55 s55 hin55 (by decide) (rfl)
  refine own_go (fun _ k => X52.iaload hx (j := (0 : Int32)) (v := (.int 1)) (by rw [e52]; exact R55.1) (State.isArrayOf_alike hZ.alike R55.2.1) R55.2.2 hin55 u55 (g := (mkF m 105 #[.val (.ref a_1), .val (.ref a_2), .val (.ref a_3), .val (.int 1), .val (.ref a_5), .val (.ref x_37), .val (.ref b42), .val (.int 0)] [(.int 0), (.ref a_2), (.ref x_37)])) rfl rfl (hb hby own_d16_105) _ k) ?_
  show own_Go _ _ _ _ T52 (mkF m 106 #[.val (.ref a_1), .val (.ref a_2), .val (.ref a_3), .val (.int 1), .val (.ref a_5), .val (.ref x_37), .val (.ref b42), .val (.int 0)] [(.int 1), (.ref x_37)])
  have sd56 : ∀ target, Steps p.tables e below (T52.setTop (mkF m 107 #[.val (.ref a_1), .val (.ref a_2), .val (.ref a_3), .val (.int 1), .val (.ref a_5), .val (.ref x_37), .val (.ref b42), .val (.int 0)] [(.int 1), (.ref x_37), (.int 1), (.ref x_37)])) target → Steps p.tables e below (T52.setTop (mkF m 106 #[.val (.ref a_1), .val (.ref a_2), .val (.ref a_3), .val (.int 1), .val (.ref a_5), .val (.ref x_37), .val (.ref b42), .val (.int 0)] [(.int 1), (.ref x_37)])) target := fun target kk => by
    jvm_step X52.here [X52.here.top, hx, (hb hby own_d16_106), Value.category]
    exact kk
  refine own_go (fun _ k => sd56 _ k) ?_
  show own_Go _ _ _ _ T52 (mkF m 107 #[.val (.ref a_1), .val (.ref a_2), .val (.ref a_3), .val (.int 1), .val (.ref a_5), .val (.ref x_37), .val (.ref b42), .val (.int 0)] [(.int 1), (.ref x_37), (.int 1), (.ref x_37)])
  have f57 := (f47.other W52 (own_ne (by omega)))
  obtain ⟨q58, c58, R58, s58, t58⟩ := id f57
  have hin58 : ¬ ((1 : Int32) < 0 ∨ c58.slots.size ≤ ((1 : Int32)).toNatClampNeg) := inb_of s58 ⟨by decide, by decide⟩
  have u58 : c58.slots[((1 : Int32)).toNatClampNeg]? = some (.int 0) := own_at (k := 1) t58 s58 hin58 (by decide) (rfl)
  refine own_go (fun _ k => X52.iaload hx (j := (1 : Int32)) (v := (.int 0)) (by rw [e52]; exact R58.1) (State.isArrayOf_alike hZ.alike R58.2.1) R58.2.2 hin58 u58 (g := (mkF m 107 #[.val (.ref a_1), .val (.ref a_2), .val (.ref a_3), .val (.int 1), .val (.ref a_5), .val (.ref x_37), .val (.ref b42), .val (.int 0)] [(.int 1), (.ref x_37), (.int 1), (.ref x_37)])) rfl rfl (hb hby own_d16_107) _ k) ?_
  show own_Go _ _ _ _ T52 (mkF m 108 #[.val (.ref a_1), .val (.ref a_2), .val (.ref a_3), .val (.int 1), .val (.ref a_5), .val (.ref x_37), .val (.ref b42), .val (.int 0)] [(.int 0), (.int 1), (.ref x_37)])
  refine own_go (fun _ k => XS.iconst X52.here hx rfl (hb hby own_d16_108) (XS.iadd X52.here hx rfl (hb hby own_d16_109) rfl k)) ?_
  obtain ⟨q59, c59, R59, s59, t59⟩ := id f57
  have hin59 : ¬ ((1 : Int32) < 0 ∨ c59.slots.size ≤ ((1 : Int32)).toNatClampNeg) := inb_of s59 ⟨by decide, by decide⟩
  obtain ⟨T60, h60, X60, e60, W60, st60⟩ := stI X52 hx hZ e52 R59 (j := (1 : Int32)) hin59 (g := (mkF m 110 #[.val (.ref a_1), .val (.ref a_2), .val (.ref a_3), .val (.int 1), .val (.ref a_5), .val (.ref x_37), .val (.ref b42), .val (.int 0)] [(.int 1), (.int 1), (.ref x_37)])) rfl rfl (hb hby own_d16_110)
  have V60 : own_AV Z h60 x_37 .int 2 (own_upd (own_upd (own_upd (fun _ => (.int 0)) 0 (.int 0)) 1 (.int 0)) 1 (.int 1)) := own_AV.set (k := 1) f57 W60 (by decide)
  have z61 := W60.size
  have K60 : Keep h0 h60 [a_5] := K52.wr W60 (Or.inr (by omega))
  have N60 := Fr.snoc X60 N52 (by omega : n0 ≤ x_37)
  refine own_go (fun _ k => st60 _ k) ?_
  show own_Go _ _ _ _ T60 (mkF m 111 #[.val (.ref a_1), .val (.ref a_2), .val (.ref a_3), .val (.int 1), .val (.ref a_5), .val (.ref x_37), .val (.ref b42), .val (.int 0)] [])
  refine own_go (fun _ k => XS.iinc X60.here hx rfl (hb hby own_d16_111) rfl (l' := #[.val (.ref a_1), .val (.ref a_2), .val (.ref a_3), .val (.int 1), .val (.ref a_5), .val (.ref x_37), .val (.ref b42), .val (.int 1)]) rfl (XS.goto X60.here hx rfl (pc0 := 114) (pc' := 80) rfl (hb hby own_d16_114) (by decide) (by decide) (XS.iload X60.here hx rfl (hb hby own_d16_80) rfl (XS.iloadN X60.here hx rfl (hb hby own_d16_82) rfl k)))) ?_
  show own_Go _ _ _ _ T60 (mkF m 83 #[.val (.ref a_1), .val (.ref a_2), .val (.ref a_3), .val (.int 1), .val (.ref a_5), .val (.ref x_37), .val (.ref b42), .val (.int 1)] [(.int 1), (.int 1)])
  have hc62 : ¬ ((1 : Int32) < (1 : Int32)) := by decide
  refine own_go (fun _ k => XS.icmpYes X60.here hx rfl (pc0 := 83) (pc' := 117) rfl (hb hby own_d16_83) rfl (Jvm.Free.XT.ii_ge_t hc62) (by decide) (by decide) (XS.aload X60.here hx rfl (hb hby own_d16_117) rfl rfl k)) ?_
  show own_Go _ _ _ _ T60 (mkF m 119 #[.val (.ref a_1), .val (.ref a_2), .val (.ref a_3), .val (.int 1), .val (.ref a_5), .val (.ref x_37), .val (.ref b42), .val (.int 1)] [(.ref b42)])
  obtain ⟨fs, hr, hrun, hended, hW, hsame⟩ := X60.leave (v := some (.ref b42)) (fun h => by rw [Bd.returns] at h; cases h)
  refine ⟨_, _, retOut X60 hx Bd.returns rfl (Or.inr (Or.inr (Or.inr (Or.inr ⟨rfl, rfl, rfl⟩)))) (hb hby own_d16_119) hr, hrun, hended, _, _, rfl, ?_, ⟨_, rfl⟩, hW, hsame.mono (by rw [y36]; decide) (by rw [z36]; decide)⟩
  show own_Q16_s4 Z a_1 a_2 a_3 a_5 h0 n0 _ T60.heap _
  rw [e60]
  have f64 := ((((V30.keep K36q nin0).ext E42).other W52 (own_ne (by omega))).other W60 (own_ne (by omega)))
  have f65 := (V52.other W60 (own_ne (by omega)))
  exact ⟨b42, rfl, N60, K60, f64, f65, (by omega)⟩
theorem own_ef_own_rm10_s3 (m : MethodId) (x0 : Addr) : entryFrame m #[(.ref x0)] 6 = mkF m 0 #[.val (.ref x0), .unset, .unset, .unset, .unset, .unset] [] := by first | (simp [entryFrame, mkF, argsToLocals, Value.category]; done) | rfl
def own_Q10_s3 (Z : State) (a_1 : Addr) (g_lam : Addr) (ob2 : Addr) (ob1 : Addr) (ob0 : Addr) (u_0 : Value) (u_1 : Value) (u_2 : Value) (h0 : Heap) (n0 : Nat) (v : Option Value) (h : Heap) (L : List Loc) : Prop := ∃ (x_0 : Addr) (x_1 : Addr) (x_2 : Addr) (x_3 : Addr), v = none ∧ Fr n0 L ∧ Keep h0 h [a_1] ∧ Exa Z h a_1 own_N1 ∧ Fld Z h a_1 own_N1 "bodies" "[I" (.ref ob2) ∧ Fld Z h a_1 own_N1 "bodyStarts" "[I" (.ref ob1) ∧ Fld Z h a_1 own_N1 "clauseCount" "I" (.int 1) ∧ Fld Z h a_1 own_N1 "derivationStarts" "[I" (.ref x_0) ∧ Fld Z h a_1 own_N1 "derivations" "[I" (.ref x_1) ∧ Fld Z h a_1 own_N1 "heads" "[I" (.ref ob0) ∧ Fld Z h a_1 own_N1 "occurrenceStarts" "[I" (.ref x_2) ∧ Fld Z h a_1 own_N1 "occurrences" "[I" (.ref x_3) ∧ Fld Z h a_1 own_N1 "variableCount" "I" (.int 2) ∧ own_AV Z h x_0 .int 3 (own_upd (own_upd (own_upd (fun _ => (.int 0)) 2 (.int 1)) 1 (.int 0)) 2 (.int 1)) ∧ own_AV Z h x_1 .int 1 (own_upd (fun _ => (.int 0)) 0 (.int 0)) ∧ own_AV Z h x_2 .int 3 (own_upd (own_upd (own_upd (fun _ => (.int 0)) 1 (.int 1)) 1 (.int 1)) 2 (.int 1)) ∧ own_AV Z h x_3 .int 1 (own_upd (fun _ => (.int 0)) 0 (.int 0)) ∧ (h0.size ≤ x_0) ∧ (h0.size ≤ x_1) ∧ (h0.size ≤ x_2) ∧ (h0.size ≤ x_3) ∧ (own_lts [x_2, x_3, x_0, x_1])
set_option maxRecDepth 65536 in
set_option maxHeartbeats 40000000 in
theorem own_rm10_s3 (l : Launch) (Z : State) (a0 : Array Value) (hw : ∀ d ∈ tables_1, d.before a0 Z = true) (ws : List Jvm.Cond) (a_1 : Addr) (g_lam : Addr) (ob2 : Addr) (ob1 : Addr) (ob0 : Addr) (u_0 : Value) (u_1 : Value) (u_2 : Value) (h0 : Heap) (n0 : Nat) (Z0 : n0 ≤ h0.size) (pr_A_ob0 : own_AV Z h0 ob0 .int 64 (own_upd (fun _ => (.int 0)) 0 (.int 1))) (pr_A_ob1 : own_AV Z h0 ob1 .int 65 (own_upd (fun _ => (.int 0)) 1 (.int 1))) (pr_A_ob2 : own_AV Z h0 ob2 .int 64 (own_upd (fun _ => (.int 0)) 0 (.int 0))) (pr_E_a_1 : Exa Z h0 a_1 own_N1) (pr_F_a_1_bodies : Fld Z h0 a_1 own_N1 "bodies" "[I" (.ref ob2)) (pr_F_a_1_bodyStarts : Fld Z h0 a_1 own_N1 "bodyStarts" "[I" (.ref ob1)) (pr_F_a_1_clauseCount : Fld Z h0 a_1 own_N1 "clauseCount" "I" (.int 1)) (pr_F_a_1_derivationStarts : Fld Z h0 a_1 own_N1 "derivationStarts" "[I" u_0) (pr_F_a_1_derivations : Fld Z h0 a_1 own_N1 "derivations" "[I" u_1) (pr_F_a_1_heads : Fld Z h0 a_1 own_N1 "heads" "[I" (.ref ob0)) (pr_F_a_1_occurrenceStarts : Fld Z h0 a_1 own_N1 "occurrenceStarts" "[I" u_2) (pr_F_a_1_occurrences : Fld Z h0 a_1 own_N1 "occurrences" "[I" .null) (pr_F_a_1_variableCount : Fld Z h0 a_1 own_N1 "variableCount" "I" (.int 2)) (pr_M_g_lam : own_LM Z h0 g_lam) (ho_ : own_lts [a_1, ob0, ob1, ob2]) (ho_g : own_lts [g_lam, n0]) (gw_a_1 : n0 ≤ a_1) :
    MetFree l (⟨own_N1, "index", "()V"⟩ : MethodName) (head1 (Jvm.Cond.code (⟨own_N1, "index", "()V"⟩ : MethodName) prog_6_method_17_code 6 none :: ws) ({ frames := 3, cells := 8, slots := 14, locals := 3100 } : Room)) (fun a U => a = #[(.ref a_1)] ∧ Z.Warmed39 U.vm ∧ U.heap = h0) (fun _ _ _ _ _ => True) (fun _ U o U' => ∃ v L, o = .returned v ∧ own_Q10_s3 Z a_1 g_lam ob2 ob1 ob0 u_0 u_1 u_2 h0 n0 v U'.heap L ∧ FrameEnd U o U' L ({ frames := 3, cells := 8, slots := 14, locals := 3100 } : Room).cells ({ frames := 3, cells := 8, slots := 14, locals := 3100 } : Room).slots) := by
  refine MetFree.of_bodySF (plainFor_of_name own_pn0) hisR ?_
  intro p e s m args below meth c s₁ Bd hml0 hP hK
  obtain ⟨rfl, hZ, hh⟩ := hP
  have hx := Bd.exec
  have hby := Bd.bytes
  have hml : c.maxLocals = 6 := hml0
  have hown : s.vm.findClass own_N1 = some m.cls := findClass_of_methodNamed Bd.named
  have hnm := (name_of_methodNamed Bd.named Bd.method).1
  have X0 : Stand p l e ({ frames := 3, cells := 8, slots := 14, locals := 3100 } : Room) s m #[(.ref a_1)] below meth c s₁ [] 0 0 := Stand.of_body Bd
  have e0 : s₁.heap = h0 := by rw [← hh, Bd.state]; rfl
  have N0 := Fr.nil n0
  have z0 : n0 ≤ h0.size := Z0
  have z1 := own_lt pr_A_ob0.lt
  have z2 := own_lt pr_A_ob1.lt
  have z3 := own_lt pr_A_ob2.lt
  have z4 := own_lt pr_E_a_1.lt
  have z5 := own_lt pr_F_a_1_bodies.lt
  have z6 := own_lt pr_F_a_1_bodyStarts.lt
  have z7 := own_lt pr_F_a_1_clauseCount.lt
  have z8 := own_lt pr_F_a_1_derivationStarts.lt
  have z9 := own_lt pr_F_a_1_derivations.lt
  have z10 := own_lt pr_F_a_1_heads.lt
  have z11 := own_lt pr_F_a_1_occurrenceStarts.lt
  have z12 := own_lt pr_F_a_1_occurrences.lt
  have z13 := own_lt pr_F_a_1_variableCount.lt
  have ho14 := ho_
  simp only [own_lts, and_true] at ho14
  have ho15 := ho_g
  simp only [own_lts, and_true] at ho15
  have K0 : Keep h0 h0 [a_1] := Keep.refl h0 _
  show own_Go p.tables e below (fun t o => t.status = .running ∧ Ended t below o ∧ ∃ v L, o = .returned v ∧ own_Q10_s3 Z a_1 g_lam ob2 ob1 ob0 u_0 u_1 u_2 h0 n0 v t.heap L ∧ FrameEnd s o t L ({ frames := 3, cells := 8, slots := 14, locals := 3100 } : Room).cells ({ frames := 3, cells := 8, slots := 14, locals := 3100 } : Room).slots) s₁ (entryFrame m #[(.ref a_1)] 6)
  rw [own_ef_own_rm10_s3 m a_1]
  show own_Go _ _ _ _ s₁ (mkF m 0 #[.val (.ref a_1), .unset, .unset, .unset, .unset, .unset] [])
  refine own_go (fun _ k => XS.aloadN X0.here hx rfl (hb hby own_d10_0) rfl rfl k) ?_
  obtain ⟨T16, X16, e16, st16⟩ := getF X0 hx hZ hown (host := "") (Or.inl (hw _ (List.mem_of_getElem? (i := 21) rfl))) Via.refl e0 pr_F_a_1_occurrences (g := (mkF m 1 #[.val (.ref a_1), .unset, .unset, .unset, .unset, .unset] [(.ref a_1)])) rfl rfl (hb hby own_d10_1)
  refine own_go (fun _ k => st16 _ k) ?_
  show own_Go _ _ _ _ T16 (mkF m 4 #[.val (.ref a_1), .unset, .unset, .unset, .unset, .unset] [.null])
  refine own_go (fun _ k => XS.ifnullYes X16.here hx rfl (pc0 := 4) (pc' := 8) rfl (hb hby own_d10_4) rfl (by decide) (by decide) (XS.aloadN X16.here hx rfl (hb hby own_d10_8) rfl rfl k)) ?_
  obtain ⟨T17, X17, e17, st17⟩ := getF X16 hx hZ hown (host := "") (Or.inl (own_w12 hw)) Via.refl e16 pr_F_a_1_bodyStarts (g := (mkF m 9 #[.val (.ref a_1), .unset, .unset, .unset, .unset, .unset] [(.ref a_1)])) rfl rfl (hb hby own_d10_9)
  refine own_go (fun _ k => st17 _ k) ?_
  show own_Go _ _ _ _ T17 (mkF m 12 #[.val (.ref a_1), .unset, .unset, .unset, .unset, .unset] [(.ref ob1)])
  refine own_go (fun _ k => XS.aloadN X17.here hx rfl (hb hby own_d10_12) rfl rfl k) ?_
  obtain ⟨T18, X18, e18, st18⟩ := getF X17 hx hZ hown (host := "") (Or.inl (own_w46 hw)) Via.refl e17 pr_F_a_1_clauseCount (g := (mkF m 13 #[.val (.ref a_1), .unset, .unset, .unset, .unset, .unset] [(.ref a_1), (.ref ob1)])) rfl rfl (hb hby own_d10_13)
  refine own_go (fun _ k => st18 _ k) ?_
  show own_Go _ _ _ _ T18 (mkF m 16 #[.val (.ref a_1), .unset, .unset, .unset, .unset, .unset] [(.int 1), (.ref ob1)])
  obtain ⟨q19, c19, R19, s19, t19⟩ := id pr_A_ob1
  have hin19 : ¬ ((1 : Int32) < 0 ∨ c19.slots.size ≤ ((1 : Int32)).toNatClampNeg) := inb_of s19 ⟨by decide, by decide⟩
  have u19 : c19.slots[((1 : Int32)).toNatClampNeg]? = some (.int 1) := own_at (k := 1) t19 s19 hin19 (by decide) (rfl)
  refine own_go (fun _ k => X18.iaload hx (j := (1 : Int32)) (v := (.int 1)) (by rw [e18]; exact R19.1) (State.isArrayOf_alike hZ.alike R19.2.1) R19.2.2 hin19 u19 (g := (mkF m 16 #[.val (.ref a_1), .unset, .unset, .unset, .unset, .unset] [(.int 1), (.ref ob1)])) rfl rfl (hb hby own_d10_16) _ k) ?_
  show own_Go _ _ _ _ T18 (mkF m 17 #[.val (.ref a_1), .unset, .unset, .unset, .unset, .unset] [(.int 1)])
  refine own_go (fun _ k => XS.istoreN X18.here hx rfl (hb hby own_d10_17) rfl (l' := #[.val (.ref a_1), .val (.int 1), .unset, .unset, .unset, .unset]) rfl (XS.iloadN X18.here hx rfl (hb hby own_d10_18) rfl k)) ?_
  obtain ⟨T20, h20, k20, X20, e20, E20, A20, st20⟩ := newP X18 hx hZ (hw _ (List.mem_of_getElem? (i := 9) rfl)) e18 (g := (mkF m 19 #[.val (.ref a_1), .val (.int 1), .unset, .unset, .unset, .unset] [(.int 1)])) rfl (hb hby own_d10_19) rfl (by decide) (cap := 1) (by decide) (by decide) (by decide) (by decide)
  obtain ⟨b20, g20⟩ : ∃ z, z = h0.size := ⟨_, rfl⟩
  rw [← g20] at A20 st20
  have z21 := E20.1
  have lt_b20 := own_lt A20.lt
  have K20 : Keep h0 h20 [a_1] := K0.ext E20
  have V_b20 : own_AV Z h20 b20 .int 1 (fun _ => (.int 0)) := own_AV.new A20 (by decide)
  refine own_go (fun _ k => st20 _ k) ?_
  show own_Go _ _ _ _ T20 (mkF m 21 #[.val (.ref a_1), .val (.int 1), .unset, .unset, .unset, .unset] [(.ref b20)])
  refine own_go (fun _ k => XS.astoreN X20.here hx rfl (hb hby own_d10_21) rfl rfl (l' := #[.val (.ref a_1), .val (.int 1), .val (.ref b20), .unset, .unset, .unset]) rfl (XS.iconst X20.here hx rfl (hb hby own_d10_22) (XS.istoreN X20.here hx rfl (hb hby own_d10_23) rfl (l' := #[.val (.ref a_1), .val (.int 1), .val (.ref b20), .val (.int 0), .unset, .unset]) rfl (XS.iloadN X20.here hx rfl (hb hby own_d10_24) rfl k)))) ?_
  show own_Go _ _ _ _ T20 (mkF m 25 #[.val (.ref a_1), .val (.int 1), .val (.ref b20), .val (.int 0), .unset, .unset] [(.int 0)])
  refine own_go (fun _ k => XS.aloadN X20.here hx rfl (hb hby own_d10_25) rfl rfl k) ?_
  have f22 := (pr_F_a_1_clauseCount.ext E20)
  obtain ⟨T23, X23, e23, st23⟩ := getF X20 hx hZ hown (host := "") (Or.inl (own_w46 hw)) Via.refl e20 f22 (g := (mkF m 26 #[.val (.ref a_1), .val (.int 1), .val (.ref b20), .val (.int 0), .unset, .unset] [(.ref a_1), (.int 0)])) rfl rfl (hb hby own_d10_26)
  refine own_go (fun _ k => st23 _ k) ?_
  show own_Go _ _ _ _ T23 (mkF m 29 #[.val (.ref a_1), .val (.int 1), .val (.ref b20), .val (.int 0), .unset, .unset] [(.int 1), (.int 0)])
  have hc24 : (0 : Int32) < (1 : Int32) := by decide
  refine own_go (fun _ k => XS.icmpNo X23.here hx rfl (hb hby own_d10_29) rfl (Jvm.Free.XT.ii_ge_f hc24) (XS.aloadN X23.here hx rfl (hb hby own_d10_32) rfl rfl (XS.aloadN X23.here hx rfl (hb hby own_d10_33) rfl rfl k))) ?_
  have f25 := (pr_F_a_1_bodyStarts.ext E20)
  obtain ⟨T26, X26, e26, st26⟩ := getF X23 hx hZ hown (host := "") (Or.inl (own_w12 hw)) Via.refl e23 f25 (g := (mkF m 34 #[.val (.ref a_1), .val (.int 1), .val (.ref b20), .val (.int 0), .unset, .unset] [(.ref a_1), (.ref b20)])) rfl rfl (hb hby own_d10_34)
  refine own_go (fun _ k => st26 _ k) ?_
  show own_Go _ _ _ _ T26 (mkF m 37 #[.val (.ref a_1), .val (.int 1), .val (.ref b20), .val (.int 0), .unset, .unset] [(.ref ob1), (.ref b20)])
  refine own_go (fun _ k => XS.iloadN X26.here hx rfl (hb hby own_d10_37) rfl k) ?_
  have f27 := (pr_A_ob1.ext E20)
  obtain ⟨q28, c28, R28, s28, t28⟩ := id f27
  have hin28 : ¬ ((0 : Int32) < 0 ∨ c28.slots.size ≤ ((0 : Int32)).toNatClampNeg) := inb_of s28 ⟨by decide, by decide⟩
  have u28 : c28.slots[((0 : Int32)).toNatClampNeg]? = some (.int 0) := own_at (k := 0) t28 s28 hin28 (by decide) (rfl)
  refine own_go (fun _ k => X26.iaload hx (j := (0 : Int32)) (v := (.int 0)) (by rw [e26]; exact R28.1) (State.isArrayOf_alike hZ.alike R28.2.1) R28.2.2 hin28 u28 (g := (mkF m 38 #[.val (.ref a_1), .val (.int 1), .val (.ref b20), .val (.int 0), .unset, .unset] [(.int 0), (.ref ob1), (.ref b20)])) rfl rfl (hb hby own_d10_38) _ k) ?_
  show own_Go _ _ _ _ T26 (mkF m 39 #[.val (.ref a_1), .val (.int 1), .val (.ref b20), .val (.int 0), .unset, .unset] [(.int 0), (.ref b20)])
  refine own_go (fun _ k => XS.aloadN X26.here hx rfl (hb hby own_d10_39) rfl rfl k) ?_
  obtain ⟨T29, X29, e29, st29⟩ := getF X26 hx hZ hown (host := "") (Or.inl (own_w12 hw)) Via.refl e26 f25 (g := (mkF m 40 #[.val (.ref a_1), .val (.int 1), .val (.ref b20), .val (.int 0), .unset, .unset] [(.ref a_1), (.int 0), (.ref b20)])) rfl rfl (hb hby own_d10_40)
  refine own_go (fun _ k => st29 _ k) ?_
  show own_Go _ _ _ _ T29 (mkF m 43 #[.val (.ref a_1), .val (.int 1), .val (.ref b20), .val (.int 0), .unset, .unset] [(.ref ob1), (.int 0), (.ref b20)])
  refine own_go (fun _ k => XS.iloadN X29.here hx rfl (hb hby own_d10_43) rfl (XS.iconst X29.here hx rfl (hb hby own_d10_44) (XS.iadd X29.here hx rfl (hb hby own_d10_45) rfl k))) ?_
  obtain ⟨q30, c30, R30, s30, t30⟩ := id f27
  have hin30 : ¬ ((1 : Int32) < 0 ∨ c30.slots.size ≤ ((1 : Int32)).toNatClampNeg) := inb_of s30 ⟨by decide, by decide⟩
  have u30 : c30.slots[((1 : Int32)).toNatClampNeg]? = some (.int 1) := own_at (k := 1) t30 s30 hin30 (by decide) (rfl)
  refine own_go (fun _ k => X29.iaload hx (j := (1 : Int32)) (v := (.int 1)) (by rw [e29]; exact R30.1) (State.isArrayOf_alike hZ.alike R30.2.1) R30.2.2 hin30 u30 (g := (mkF m 46 #[.val (.ref a_1), .val (.int 1), .val (.ref b20), .val (.int 0), .unset, .unset] [(.int 1), (.ref ob1), (.int 0), (.ref b20)])) rfl rfl (hb hby own_d10_46) _ k) ?_
  show own_Go _ _ _ _ T29 (mkF m 47 #[.val (.ref a_1), .val (.int 1), .val (.ref b20), .val (.int 0), .unset, .unset] [(.int 1), (.int 0), (.ref b20)])
  refine own_go (fun _ k => XS.iloadN X29.here hx rfl (hb hby own_d10_47) rfl k) ?_
  obtain ⟨_, _, ⟨T31, L31, k31, n31⟩, -, X31, ⟨Lc31, hQ31, l31, y31, z31⟩, st31⟩ := Jvm.LawKit.callS X29 hx (y := (⟨"java/util/Arrays", "fill", "([IIII)V"⟩ : MethodName)) hown (mvT hZ (hw _ (List.mem_of_getElem? (i := 70) rfl))) (mvT hZ (hw _ (List.mem_of_getElem? (i := 71) rfl))) (mvT hZ (own_w72 hw)) (mvT hZ (hw _ (List.mem_of_getElem? (i := 73) rfl))) (by decide) (backOf (W := 0) (own_rm11_s1 l Z a0 hw [] b20  h20 n0 (by omega) V_b20 (by omega)) hZ (hw _ (List.mem_of_getElem? (i := 73) rfl)) (own_w72 hw) (by decide) (by decide)) (g := (mkF m 48 #[.val (.ref a_1), .val (.int 1), .val (.ref b20), .val (.int 0), .unset, .unset] [(.int 0), (.int 1), (.int 0), (.ref b20)])) rfl (by rw [hml]; rfl) (argsL := [(.ref b20), (.int 0), (.int 1), (.int 0)]) (rest := []) (lenOf own_pd6 rfl) rfl (by show 2 * 0 + _ ≤ _; exact Nat.le_of_eq rfl) (hb hby own_d10_48) (fun _ _ => ⟨rfl, e29, (by decide : 1 + 0 ≤ _), (by decide : 1 + 0 ≤ _)⟩)
  dsimp only [Pt.U, Pt.locs, Pt.cells, Pt.slots] at X31 l31 y31 z31 st31 hQ31
  have y31 : k31 = 1 := y31
  have z31 : n31 = 1 := z31
  obtain ⟨rfl, N31q, K31q, f32⟩ := hQ31
  have N31 : Fr n0 L31 := by rw [l31]; exact Fr.app N0 N31q
  have z33 := K31q.1
  have K31 : Keep h0 T31.heap [a_1] := K20.trans K31q (allS (Or.inr (by omega)) all0)
  have z34 := own_lt f32.lt
  refine own_go (fun _ k => st31 _ k) ?_
  show own_Go _ _ _ _ T31 (mkF m 51 #[.val (.ref a_1), .val (.int 1), .val (.ref b20), .val (.int 0), .unset, .unset] [])
  refine own_go (fun _ k => XS.iinc X31.here hx rfl (hb hby own_d10_51) rfl (l' := #[.val (.ref a_1), .val (.int 1), .val (.ref b20), .val (.int 1), .unset, .unset]) rfl (XS.goto X31.here hx rfl (pc0 := 54) (pc' := 24) rfl (hb hby own_d10_54) (by decide) (by decide) (XS.iloadN X31.here hx rfl (hb hby own_d10_24) rfl (XS.aloadN X31.here hx rfl (hb hby own_d10_25) rfl rfl k)))) ?_
  show own_Go _ _ _ _ T31 (mkF m 26 #[.val (.ref a_1), .val (.int 1), .val (.ref b20), .val (.int 1), .unset, .unset] [(.ref a_1), (.int 1)])
  have f35 := (f22.keep K31q (ninS (own_ne (by omega)) nin0))
  obtain ⟨T36, X36, e36, st36⟩ := getF X31 hx hZ hown (host := "") (Or.inl (own_w46 hw)) Via.refl rfl f35 (g := (mkF m 26 #[.val (.ref a_1), .val (.int 1), .val (.ref b20), .val (.int 1), .unset, .unset] [(.ref a_1), (.int 1)])) rfl rfl (hb hby own_d10_26)
  refine own_go (fun _ k => st36 _ k) ?_
  show own_Go _ _ _ _ T36 (mkF m 29 #[.val (.ref a_1), .val (.int 1), .val (.ref b20), .val (.int 1), .unset, .unset] [(.int 1), (.int 1)])
  have hc37 : ¬ ((1 : Int32) < (1 : Int32)) := by decide
  refine own_go (fun _ k => XS.icmpYes X36.here hx rfl (pc0 := 29) (pc' := 57) rfl (hb hby own_d10_29) rfl (Jvm.Free.XT.ii_ge_t hc37) (by decide) (by decide) (XS.aloadN X36.here hx rfl (hb hby own_d10_57) rfl rfl k)) ?_
  obtain ⟨T38, X38, e38, st38⟩ := getF X36 hx hZ hown (host := "") (Or.inl (own_w46 hw)) Via.refl e36 f35 (g := (mkF m 58 #[.val (.ref a_1), .val (.int 1), .val (.ref b20), .val (.int 1), .unset, .unset] [(.ref a_1)])) rfl rfl (hb hby own_d10_58)
  refine own_go (fun _ k => st38 _ k) ?_
  show own_Go _ _ _ _ T38 (mkF m 61 #[.val (.ref a_1), .val (.int 1), .val (.ref b20), .val (.int 1), .unset, .unset] [(.int 1)])
  obtain ⟨T39, h39, k39, X39, e39, E39, A39, st39⟩ := newP X38 hx hZ (hw _ (List.mem_of_getElem? (i := 9) rfl)) e38 (g := (mkF m 61 #[.val (.ref a_1), .val (.int 1), .val (.ref b20), .val (.int 1), .unset, .unset] [(.int 1)])) rfl (hb hby own_d10_61) rfl (by decide) (cap := 1) (by decide) (by decide) (by rw [y31]; decide) (by rw [z31]; decide)
  obtain ⟨b39, g39⟩ : ∃ z, z = T31.heap.size := ⟨_, rfl⟩
  rw [← g39] at A39 st39
  have z40 := E39.1
  have lt_b39 := own_lt A39.lt
  have K39 : Keep h0 h39 [a_1] := K31.ext E39
  have V_b39 : own_AV Z h39 b39 .int 1 (fun _ => (.int 0)) := own_AV.new A39 (by decide)
  refine own_go (fun _ k => st39 _ k) ?_
  show own_Go _ _ _ _ T39 (mkF m 63 #[.val (.ref a_1), .val (.int 1), .val (.ref b20), .val (.int 1), .unset, .unset] [(.ref b39)])
  refine own_go (fun _ k => XS.astoreN X39.here hx rfl (hb hby own_d10_63) rfl rfl (l' := #[.val (.ref a_1), .val (.int 1), .val (.ref b20), .val (.ref b39), .unset, .unset]) rfl (XS.aloadN X39.here hx rfl (hb hby own_d10_64) rfl rfl k)) ?_
  have f41 := (((pr_M_g_lam.ext E20).keep K31q).ext E39)
  refine own_go (fun _ k => own_indy X39 hx hZ Bd.named f41 (g := (mkF m 65 #[.val (.ref a_1), .val (.int 1), .val (.ref b20), .val (.ref b39), .unset, .unset] [(.ref b39)])) rfl rfl (by rw [hml]; rfl) (hb hby own_d10_65) (W := 1) (by show 2 * 0 + _ ≤ _; exact Nat.le_of_eq rfl) (by decide) k) ?_
  show own_Go _ _ _ _ T39 (mkF m 70 #[.val (.ref a_1), .val (.int 1), .val (.ref b20), .val (.ref b39), .unset, .unset] [(.ref g_lam), (.ref b39)])
  obtain ⟨_, _, ⟨T42, L42, k42, n42⟩, -, X42, ⟨Lc42, hQ42, l42, y42, z42⟩, st42⟩ := Jvm.LawKit.callS X39 hx (y := (⟨"java/util/Arrays", "setAll", "([ILjava/util/function/IntUnaryOperator;)V"⟩ : MethodName)) hown (mvT hZ (hw _ (List.mem_of_getElem? (i := 80) rfl))) (mvT hZ (hw _ (List.mem_of_getElem? (i := 81) rfl))) (mvT hZ (own_w72 hw)) (mvT hZ (hw _ (List.mem_of_getElem? (i := 82) rfl))) (by decide) (backOf (W := 0) (own_rm13_s1 l Z a0 hw [] b39 g_lam  h39 n0 (by omega) V_b39 f41 (by simp only [own_lts, and_true]; omega) (by omega)) hZ (hw _ (List.mem_of_getElem? (i := 82) rfl)) (own_w72 hw) (by decide) (by decide)) (g := (mkF m 70 #[.val (.ref a_1), .val (.int 1), .val (.ref b20), .val (.ref b39), .unset, .unset] [(.ref g_lam), (.ref b39)])) rfl (by rw [hml]; rfl) (argsL := [(.ref b39), (.ref g_lam)]) (rest := []) (lenOf own_pd8 rfl) rfl (by show 2 * 0 + _ ≤ _; exact Nat.le_of_eq rfl) (hb hby own_d10_70) (fun _ _ => ⟨rfl, e39, (by show k31 + 1 + _ ≤ _; rw [y31]; decide), (by show n31 + 1 + _ ≤ _; rw [z31]; decide)⟩)
  dsimp only [Pt.U, Pt.locs, Pt.cells, Pt.slots] at X42 l42 y42 z42 st42 hQ42
  have y42 : k42 = 2 := own_addeq y42 (congrArg (fun q => q + 1) y31) rfl
  have z42 : n42 = 2 := own_addeq z42 (congrArg (fun q => q + 1) z31) rfl
  obtain ⟨rfl, N42q, K42q, f43⟩ := hQ42
  have N42 : Fr n0 L42 := by rw [l42]; exact Fr.app N31 N42q
  have z44 := K42q.1
  have K42 : Keep h0 T42.heap [a_1] := K39.trans K42q (allS (Or.inr (by omega)) all0)
  have z45 := own_lt f43.lt
  refine own_go (fun _ k => st42 _ k) ?_
  show own_Go _ _ _ _ T42 (mkF m 73 #[.val (.ref a_1), .val (.int 1), .val (.ref b20), .val (.ref b39), .unset, .unset] [])
  refine own_go (fun _ k => XS.aloadN X42.here hx rfl (hb hby own_d10_73) rfl rfl k) ?_
  have f46 := ((((pr_F_a_1_variableCount.ext E20).keep K31q (ninS (own_ne (by omega)) nin0)).ext E39).keep K42q (ninS (own_ne (by omega)) nin0))
  obtain ⟨T47, X47, e47, st47⟩ := getF X42 hx hZ hown (host := "") (Or.inl (own_w23 hw)) Via.refl rfl f46 (g := (mkF m 74 #[.val (.ref a_1), .val (.int 1), .val (.ref b20), .val (.ref b39), .unset, .unset] [(.ref a_1)])) rfl rfl (hb hby own_d10_74)
  refine own_go (fun _ k => st47 _ k) ?_
  show own_Go _ _ _ _ T47 (mkF m 77 #[.val (.ref a_1), .val (.int 1), .val (.ref b20), .val (.ref b39), .unset, .unset] [(.int 2)])
  refine own_go (fun _ k => XS.iconst X47.here hx rfl (hb hby own_d10_77) (XS.iadd X47.here hx rfl (hb hby own_d10_78) rfl k)) ?_
  obtain ⟨T48, h48, k48, X48, e48, E48, A48, st48⟩ := newP X47 hx hZ (hw _ (List.mem_of_getElem? (i := 9) rfl)) e47 (g := (mkF m 79 #[.val (.ref a_1), .val (.int 1), .val (.ref b20), .val (.ref b39), .unset, .unset] [(.int 3)])) rfl (hb hby own_d10_79) rfl (by decide) (cap := 3) (by decide) (by decide) (by rw [y42]; decide) (by rw [z42]; decide)
  obtain ⟨b48, g48⟩ : ∃ z, z = T42.heap.size := ⟨_, rfl⟩
  rw [← g48] at A48 st48
  have z49 := E48.1
  have lt_b48 := own_lt A48.lt
  have K48 : Keep h0 h48 [a_1] := K42.ext E48
  have V_b48 : own_AV Z h48 b48 .int 3 (fun _ => (.int 0)) := own_AV.new A48 (by decide)
  refine own_go (fun _ k => st48 _ k) ?_
  show own_Go _ _ _ _ T48 (mkF m 81 #[.val (.ref a_1), .val (.int 1), .val (.ref b20), .val (.ref b39), .unset, .unset] [(.ref b48)])
  refine own_go (fun _ k => XS.astore X48.here hx rfl (hb hby own_d10_81) rfl rfl (l' := #[.val (.ref a_1), .val (.int 1), .val (.ref b20), .val (.ref b39), .val (.ref b48), .unset]) rfl (XS.aloadN X48.here hx rfl (hb hby own_d10_83) rfl rfl (XS.aloadN X48.here hx rfl (hb hby own_d10_84) rfl rfl k))) ?_
  have f50 := (((((pr_F_a_1_bodies.ext E20).keep K31q (ninS (own_ne (by omega)) nin0)).ext E39).keep K42q (ninS (own_ne (by omega)) nin0)).ext E48)
  obtain ⟨T51, X51, e51, st51⟩ := getF X48 hx hZ hown (host := "") (Or.inl (hw _ (List.mem_of_getElem? (i := 14) rfl))) Via.refl e48 f50 (g := (mkF m 85 #[.val (.ref a_1), .val (.int 1), .val (.ref b20), .val (.ref b39), .val (.ref b48), .unset] [(.ref a_1), (.ref a_1)])) rfl rfl (hb hby own_d10_85)
  refine own_go (fun _ k => st51 _ k) ?_
  show own_Go _ _ _ _ T51 (mkF m 88 #[.val (.ref a_1), .val (.int 1), .val (.ref b20), .val (.ref b39), .val (.ref b48), .unset] [(.ref ob2), (.ref a_1)])
  refine own_go (fun _ k => XS.aloadN X51.here hx rfl (hb hby own_d10_88) rfl rfl (XS.iloadN X51.here hx rfl (hb hby own_d10_89) rfl (XS.aload X51.here hx rfl (hb hby own_d10_90) rfl rfl k))) ?_
  have f52 := (((((pr_A_ob2.ext E20).keep K31q (ninS (own_ne (by omega)) nin0)).ext E39).keep K42q (ninS (own_ne (by omega)) nin0)).ext E48)
  have f53 := (((f32.ext E39).keep K42q (ninS (own_ne (by omega)) nin0)).ext E48)
  have f54 := (f46.ext E48)
  have f56 := (((((pr_E_a_1.ext E20).keep K31q).ext E39).keep K42q).ext E48)
  obtain ⟨cq55, q55, q55'⟩ := (id f56).cell
  obtain ⟨_, _, ⟨T55, L55, k55, n55⟩, -, X55, ⟨Lc55, hQ55, l55, y55, z55⟩, st55⟩ := X51.privateBack hx (y := (⟨own_N1, "groupByVariable", "([I[II[I)[I"⟩ : MethodName)) hown (mvT hZ (hw _ (List.mem_of_getElem? (i := 92) rfl))) (mvT hZ (hw _ (List.mem_of_getElem? (i := 93) rfl))) (own_selfsel hZ (own_w1 hw) (hw _ (List.mem_of_getElem? (i := 93) rfl)) (hw _ (List.mem_of_getElem? (i := 94) rfl)) (by decide)) (Cond.privateMethod_at (mvP hZ (hw _ (List.mem_of_getElem? (i := 94) rfl)) (args := #[]))) (mvT hZ (hw _ (List.mem_of_getElem? (i := 95) rfl))) (by decide) (backOf (W := 0) (own_rm16_s3 l Z a0 hw [] a_1 ob2 b20 b48  h48 n0 (by omega) f52 f53 V_b48 f54 (by simp only [own_lts, and_true]; omega) (by omega)) hZ (hw _ (List.mem_of_getElem? (i := 95) rfl)) (own_w2 hw) (by decide) (by decide)) (g := (mkF m 92 #[.val (.ref a_1), .val (.int 1), .val (.ref b20), .val (.ref b39), .val (.ref b48), .unset] [(.ref b48), (.int 1), (.ref b20), (.ref ob2), (.ref a_1)])) rfl (by rw [hml]; rfl) (Steps.refl _) (a := a_1) (by rw [e51]; exact q55) q55' (argsL := [(.ref ob2), (.ref b20), (.int 1), (.ref b48)]) (rest := []) (lenOf own_pd11 rfl) rfl (by show 2 * 0 + _ ≤ _; exact Nat.le_of_eq rfl) (hb hby own_d10_92) (fun _ _ => ⟨rfl, e51, (by show k42 + 1 + _ ≤ _; rw [y42]; decide), (by show n42 + 3 + _ ≤ _; rw [z42]; decide)⟩)
  dsimp only [Pt.U, Pt.locs, Pt.cells, Pt.slots] at X55 l55 y55 z55 st55 hQ55
  have y55 : k55 = 5 := own_addeq y55 (congrArg (fun q => q + 1) y42) rfl
  have z55 : n55 = 8 := own_addeq z55 (congrArg (fun q => q + 3) z42) rfl
  obtain ⟨x_57, rfl, N55q, K55q, f58, f59, f60⟩ := hQ55
  have N55 : Fr n0 L55 := by rw [l55]; exact Fr.app N42 N55q
  have z61 := K55q.1
  have K55 : Keep h0 T55.heap [a_1] := K48.trans K55q (allS (Or.inr (by omega)) all0)
  have z62 := own_lt f58.lt
  have z63 := own_lt f59.lt
  refine own_go (fun _ k => st55.trans k) ?_
  show own_Go _ _ _ _ T55 (mkF m 95 #[.val (.ref a_1), .val (.int 1), .val (.ref b20), .val (.ref b39), .val (.ref b48), .unset] [(.ref x_57)])
  refine own_go (fun _ k => XS.astore X55.here hx rfl (hb hby own_d10_95) rfl rfl (l' := #[.val (.ref a_1), .val (.int 1), .val (.ref b20), .val (.ref b39), .val (.ref b48), .val (.ref x_57)]) rfl (XS.aloadN X55.here hx rfl (hb hby own_d10_97) rfl rfl (XS.aloadN X55.here hx rfl (hb hby own_d10_98) rfl rfl k))) ?_
  have f64 := (f54.keep K55q (ninS (own_ne (by omega)) nin0))
  obtain ⟨T65, X65, e65, st65⟩ := getF X55 hx hZ hown (host := "") (Or.inl (own_w23 hw)) Via.refl rfl f64 (g := (mkF m 99 #[.val (.ref a_1), .val (.int 1), .val (.ref b20), .val (.ref b39), .val (.ref b48), .val (.ref x_57)] [(.ref a_1), (.ref a_1)])) rfl rfl (hb hby own_d10_99)
  refine own_go (fun _ k => st65 _ k) ?_
  show own_Go _ _ _ _ T65 (mkF m 102 #[.val (.ref a_1), .val (.int 1), .val (.ref b20), .val (.ref b39), .val (.ref b48), .val (.ref x_57)] [(.int 2), (.ref a_1)])
  refine own_go (fun _ k => XS.iconst X65.here hx rfl (hb hby own_d10_102) (XS.iadd X65.here hx rfl (hb hby own_d10_103) rfl k)) ?_
  obtain ⟨T66, h66, k66, X66, e66, E66, A66, st66⟩ := newP X65 hx hZ (hw _ (List.mem_of_getElem? (i := 9) rfl)) e65 (g := (mkF m 104 #[.val (.ref a_1), .val (.int 1), .val (.ref b20), .val (.ref b39), .val (.ref b48), .val (.ref x_57)] [(.int 3), (.ref a_1)])) rfl (hb hby own_d10_104) rfl (by decide) (cap := 3) (by decide) (by decide) (by rw [y55]; decide) (by rw [z55]; decide)
  obtain ⟨b66, g66⟩ : ∃ z, z = T55.heap.size := ⟨_, rfl⟩
  rw [← g66] at A66 st66
  have z67 := E66.1
  have lt_b66 := own_lt A66.lt
  have K66 : Keep h0 h66 [a_1] := K55.ext E66
  have V_b66 : own_AV Z h66 b66 .int 3 (fun _ => (.int 0)) := own_AV.new A66 (by decide)
  refine own_go (fun _ k => st66 _ k) ?_
  show own_Go _ _ _ _ T66 (mkF m 106 #[.val (.ref a_1), .val (.int 1), .val (.ref b20), .val (.ref b39), .val (.ref b48), .val (.ref x_57)] [(.ref b66), (.ref a_1)])
  have f68 := ((f56.keep K55q).ext E66)
  have f69 := (((((((pr_F_a_1_derivationStarts.ext E20).keep K31q (ninS (own_ne (by omega)) nin0)).ext E39).keep K42q (ninS (own_ne (by omega)) nin0)).ext E48).keep K55q (ninS (own_ne (by omega)) nin0)).ext E66)
  obtain ⟨T70, h70, X70, e70, W70, st70⟩ := putF X66 hx hZ hown (host := "") (Or.inl (hw _ (List.mem_of_getElem? (i := 104) rfl))) Via.refl e66 f69 f68 (Or.inl (own_w105 hw)) (own_w1 hw) (ty := (.array .int)) (by decide) rfl rfl (g := (mkF m 106 #[.val (.ref a_1), .val (.int 1), .val (.ref b20), .val (.ref b39), .val (.ref b48), .val (.ref x_57)] [(.ref b66), (.ref a_1)])) rfl rfl (hb hby own_d10_106)
  have z71 := W70.size
  have K70 : Keep h0 h70 [a_1] := K66.wr W70 (Or.inl (List.mem_of_getElem? (i := 0) rfl))
  have N70 := Fr.snoc X70 N55 (by omega : n0 ≤ a_1)
  have Fw70 : Fld Z h70 a_1 own_N1 "derivationStarts" "[I" (.ref b66) := Fld.same W70 f69
  refine own_go (fun _ k => st70 _ k) ?_
  show own_Go _ _ _ _ T70 (mkF m 109 #[.val (.ref a_1), .val (.int 1), .val (.ref b20), .val (.ref b39), .val (.ref b48), .val (.ref x_57)] [])
  refine own_go (fun _ k => XS.aloadN X70.here hx rfl (hb hby own_d10_109) rfl rfl (XS.aloadN X70.here hx rfl (hb hby own_d10_110) rfl rfl (XS.aloadN X70.here hx rfl (hb hby own_d10_111) rfl rfl k))) ?_
  have f72 := ((((((((pr_F_a_1_heads.ext E20).keep K31q (ninS (own_ne (by omega)) nin0)).ext E39).keep K42q (ninS (own_ne (by omega)) nin0)).ext E48).keep K55q (ninS (own_ne (by omega)) nin0)).ext E66).other W70 (Or.inr (slot_ne (Or.inl (own_w11 hw)) (Or.inl (own_w105 hw)) (by decide) (t := (.array .int)) (t' := (.array .int)) (by decide) (by decide))))
  obtain ⟨T73, X73, e73, st73⟩ := getF X70 hx hZ hown (host := "") (Or.inl (hw _ (List.mem_of_getElem? (i := 10) rfl))) Via.refl e70 f72 (g := (mkF m 112 #[.val (.ref a_1), .val (.int 1), .val (.ref b20), .val (.ref b39), .val (.ref b48), .val (.ref x_57)] [(.ref a_1), (.ref a_1), (.ref a_1)])) rfl rfl (hb hby own_d10_112)
  refine own_go (fun _ k => st73 _ k) ?_
  show own_Go _ _ _ _ T73 (mkF m 115 #[.val (.ref a_1), .val (.int 1), .val (.ref b20), .val (.ref b39), .val (.ref b48), .val (.ref x_57)] [(.ref ob0), (.ref a_1), (.ref a_1)])
  refine own_go (fun _ k => XS.aloadN X73.here hx rfl (hb hby own_d10_115) rfl rfl (XS.aloadN X73.here hx rfl (hb hby own_d10_116) rfl rfl k)) ?_
  have f74 := ((((((f35.ext E39).keep K42q (ninS (own_ne (by omega)) nin0)).ext E48).keep K55q (ninS (own_ne (by omega)) nin0)).ext E66).other W70 (Or.inr (slot_ne (Or.inl (own_w47 hw)) (Or.inl (own_w105 hw)) (by decide) (t := .int) (t' := (.array .int)) (by decide) (by decide))))
  obtain ⟨T75, X75, e75, st75⟩ := getF X73 hx hZ hown (host := "") (Or.inl (own_w46 hw)) Via.refl e73 f74 (g := (mkF m 117 #[.val (.ref a_1), .val (.int 1), .val (.ref b20), .val (.ref b39), .val (.ref b48), .val (.ref x_57)] [(.ref a_1), (.ref b39), (.ref ob0), (.ref a_1), (.ref a_1)])) rfl rfl (hb hby own_d10_117)
  refine own_go (fun _ k => st75 _ k) ?_
  show own_Go _ _ _ _ T75 (mkF m 120 #[.val (.ref a_1), .val (.int 1), .val (.ref b20), .val (.ref b39), .val (.ref b48), .val (.ref x_57)] [(.int 1), (.ref b39), (.ref ob0), (.ref a_1), (.ref a_1)])
  refine own_go (fun _ k => XS.aloadN X75.here hx rfl (hb hby own_d10_120) rfl rfl k) ?_
  obtain ⟨T76, X76, e76, st76⟩ := getF X75 hx hZ hown (host := "") (Or.inl (hw _ (List.mem_of_getElem? (i := 104) rfl))) Via.refl e75 Fw70 (g := (mkF m 121 #[.val (.ref a_1), .val (.int 1), .val (.ref b20), .val (.ref b39), .val (.ref b48), .val (.ref x_57)] [(.ref a_1), (.int 1), (.ref b39), (.ref ob0), (.ref a_1), (.ref a_1)])) rfl rfl (hb hby own_d10_121)
  refine own_go (fun _ k => st76 _ k) ?_
  show own_Go _ _ _ _ T76 (mkF m 124 #[.val (.ref a_1), .val (.int 1), .val (.ref b20), .val (.ref b39), .val (.ref b48), .val (.ref x_57)] [(.ref b66), (.int 1), (.ref b39), (.ref ob0), (.ref a_1), (.ref a_1)])
  have f77 := ((((((((pr_A_ob0.ext E20).keep K31q (ninS (own_ne (by omega)) nin0)).ext E39).keep K42q (ninS (own_ne (by omega)) nin0)).ext E48).keep K55q (ninS (own_ne (by omega)) nin0)).ext E66).other W70 (own_ne (by omega)))
  have f78 := ((((f43.ext E48).keep K55q (ninS (own_ne (by omega)) nin0)).ext E66).other W70 (own_ne (by omega)))
  have f79 := (V_b66.other W70 (own_ne (by omega)))
  have f80 := ((f64.ext E66).other W70 (Or.inr (slot_ne (Or.inl (own_w24 hw)) (Or.inl (own_w105 hw)) (by decide) (t := .int) (t' := (.array .int)) (by decide) (by decide))))
  have f82 := (f68.wr W70)
  obtain ⟨cq81, q81, q81'⟩ := (id f82).cell
  obtain ⟨_, _, ⟨T81, L81, k81, n81⟩, -, X81, ⟨Lc81, hQ81, l81, y81, z81⟩, st81⟩ := X76.privateBack hx (y := (⟨own_N1, "groupByVariable", "([I[II[I)[I"⟩ : MethodName)) hown (mvT hZ (hw _ (List.mem_of_getElem? (i := 92) rfl))) (mvT hZ (hw _ (List.mem_of_getElem? (i := 93) rfl))) (own_selfsel hZ (own_w1 hw) (hw _ (List.mem_of_getElem? (i := 93) rfl)) (hw _ (List.mem_of_getElem? (i := 94) rfl)) (by decide)) (Cond.privateMethod_at (mvP hZ (hw _ (List.mem_of_getElem? (i := 94) rfl)) (args := #[]))) (mvT hZ (hw _ (List.mem_of_getElem? (i := 95) rfl))) (by decide) (backOf (W := 1) (own_rm16_s4 l Z a0 hw [] a_1 ob0 b39 b66  h70 n0 (by omega) f77 f78 f79 f80 (by simp only [own_lts, and_true]; omega) (by omega)) hZ (hw _ (List.mem_of_getElem? (i := 95) rfl)) (own_w2 hw) (by decide) (by decide)) (g := (mkF m 124 #[.val (.ref a_1), .val (.int 1), .val (.ref b20), .val (.ref b39), .val (.ref b48), .val (.ref x_57)] [(.ref b66), (.int 1), (.ref b39), (.ref ob0), (.ref a_1), (.ref a_1)])) rfl (by rw [hml]; rfl) (Steps.refl _) (a := a_1) (by rw [e76]; exact q81) q81' (argsL := [(.ref ob0), (.ref b39), (.int 1), (.ref b66)]) (rest := [(.ref a_1)]) (lenOf own_pd11 rfl) rfl (by show 2 * 0 + _ ≤ _; exact Nat.le_of_eq rfl) (hb hby own_d10_124) (fun _ _ => ⟨rfl, e76, (by show k55 + 1 + _ ≤ _; rw [y55]; decide), (by show n55 + 3 + _ ≤ _; rw [z55]; decide)⟩)
  dsimp only [Pt.U, Pt.locs, Pt.cells, Pt.slots] at X81 l81 y81 z81 st81 hQ81
  have y81 : k81 = 8 := own_addeq y81 (congrArg (fun q => q + 1) y55) rfl
  have z81 : n81 = 14 := own_addeq z81 (congrArg (fun q => q + 3) z55) rfl
  obtain ⟨x_83, rfl, N81q, K81q, f84, f85, f86⟩ := hQ81
  have N81 : Fr n0 L81 := by rw [l81]; exact Fr.app N70 N81q
  have z87 := K81q.1
  have K81 : Keep h0 T81.heap [a_1] := K70.trans K81q (allS (Or.inr (by omega)) all0)
  have z88 := own_lt f84.lt
  have z89 := own_lt f85.lt
  refine own_go (fun _ k => st81.trans k) ?_
  show own_Go _ _ _ _ T81 (mkF m 127 #[.val (.ref a_1), .val (.int 1), .val (.ref b20), .val (.ref b39), .val (.ref b48), .val (.ref x_57)] [(.ref x_83), (.ref a_1)])
  have f90 := (f82.keep K81q)
  have f91 := (((((((((pr_F_a_1_derivations.ext E20).keep K31q (ninS (own_ne (by omega)) nin0)).ext E39).keep K42q (ninS (own_ne (by omega)) nin0)).ext E48).keep K55q (ninS (own_ne (by omega)) nin0)).ext E66).other W70 (Or.inr (slot_ne (Or.inl (own_w107 hw)) (Or.inl (own_w105 hw)) (by decide) (t := (.array .int)) (t' := (.array .int)) (by decide) (by decide)))).keep K81q (ninS (own_ne (by omega)) nin0))
  obtain ⟨T92, h92, X92, e92, W92, st92⟩ := putF X81 hx hZ hown (host := "") (Or.inl (hw _ (List.mem_of_getElem? (i := 106) rfl))) Via.refl rfl f91 f90 (Or.inl (own_w107 hw)) (own_w1 hw) (ty := (.array .int)) (by decide) rfl rfl (g := (mkF m 127 #[.val (.ref a_1), .val (.int 1), .val (.ref b20), .val (.ref b39), .val (.ref b48), .val (.ref x_57)] [(.ref x_83), (.ref a_1)])) rfl rfl (hb hby own_d10_127)
  have z93 := W92.size
  have K92 : Keep h0 h92 [a_1] := K81.wr W92 (Or.inl (List.mem_of_getElem? (i := 0) rfl))
  have N92 := Fr.snoc X92 N81 (by omega : n0 ≤ a_1)
  have Fw92 : Fld Z h92 a_1 own_N1 "derivations" "[I" (.ref x_83) := Fld.same W92 f91
  refine own_go (fun _ k => st92 _ k) ?_
  show own_Go _ _ _ _ T92 (mkF m 130 #[.val (.ref a_1), .val (.int 1), .val (.ref b20), .val (.ref b39), .val (.ref b48), .val (.ref x_57)] [])
  refine own_go (fun _ k => XS.aloadN X92.here hx rfl (hb hby own_d10_130) rfl rfl (XS.aload X92.here hx rfl (hb hby own_d10_131) rfl rfl k)) ?_
  have f94 := (f90.wr W92)
  have f95 := ((((((((((pr_F_a_1_occurrenceStarts.ext E20).keep K31q (ninS (own_ne (by omega)) nin0)).ext E39).keep K42q (ninS (own_ne (by omega)) nin0)).ext E48).keep K55q (ninS (own_ne (by omega)) nin0)).ext E66).other W70 (Or.inr (slot_ne (Or.inl (own_w109 hw)) (Or.inl (own_w105 hw)) (by decide) (t := (.array .int)) (t' := (.array .int)) (by decide) (by decide)))).keep K81q (ninS (own_ne (by omega)) nin0)).other W92 (Or.inr (slot_ne (Or.inl (own_w109 hw)) (Or.inl (own_w107 hw)) (by decide) (t := (.array .int)) (t' := (.array .int)) (by decide) (by decide))))
  obtain ⟨T96, h96, X96, e96, W96, st96⟩ := putF X92 hx hZ hown (host := "") (Or.inl (own_w108 hw)) Via.refl e92 f95 f94 (Or.inl (own_w109 hw)) (own_w1 hw) (ty := (.array .int)) (by decide) rfl rfl (g := (mkF m 133 #[.val (.ref a_1), .val (.int 1), .val (.ref b20), .val (.ref b39), .val (.ref b48), .val (.ref x_57)] [(.ref b48), (.ref a_1)])) rfl rfl (hb hby own_d10_133)
  have z97 := W96.size
  have K96 : Keep h0 h96 [a_1] := K92.wr W96 (Or.inl (List.mem_of_getElem? (i := 0) rfl))
  have N96 := Fr.snoc X96 N92 (by omega : n0 ≤ a_1)
  have Fw96 : Fld Z h96 a_1 own_N1 "occurrenceStarts" "[I" (.ref b48) := Fld.same W96 f95
  refine own_go (fun _ k => st96 _ k) ?_
  show own_Go _ _ _ _ T96 (mkF m 136 #[.val (.ref a_1), .val (.int 1), .val (.ref b20), .val (.ref b39), .val (.ref b48), .val (.ref x_57)] [])
  refine own_go (fun _ k => XS.aloadN X96.here hx rfl (hb hby own_d10_136) rfl rfl (XS.aload X96.here hx rfl (hb hby own_d10_137) rfl rfl k)) ?_
  have f98 := (f94.wr W96)
  have f99 := (((((((((((pr_F_a_1_occurrences.ext E20).keep K31q (ninS (own_ne (by omega)) nin0)).ext E39).keep K42q (ninS (own_ne (by omega)) nin0)).ext E48).keep K55q (ninS (own_ne (by omega)) nin0)).ext E66).other W70 (Or.inr (slot_ne (Or.inl (own_w22 hw)) (Or.inl (own_w105 hw)) (by decide) (t := (.array .int)) (t' := (.array .int)) (by decide) (by decide)))).keep K81q (ninS (own_ne (by omega)) nin0)).other W92 (Or.inr (slot_ne (Or.inl (own_w22 hw)) (Or.inl (own_w107 hw)) (by decide) (t := (.array .int)) (t' := (.array .int)) (by decide) (by decide)))).other W96 (Or.inr (slot_ne (Or.inl (own_w22 hw)) (Or.inl (own_w109 hw)) (by decide) (t := (.array .int)) (t' := (.array .int)) (by decide) (by decide))))
  obtain ⟨T100, h100, X100, e100, W100, st100⟩ := putF X96 hx hZ hown (host := "") (Or.inl (hw _ (List.mem_of_getElem? (i := 21) rfl))) Via.refl e96 f99 f98 (Or.inl (own_w22 hw)) (own_w1 hw) (ty := (.array .int)) (by decide) rfl rfl (g := (mkF m 139 #[.val (.ref a_1), .val (.int 1), .val (.ref b20), .val (.ref b39), .val (.ref b48), .val (.ref x_57)] [(.ref x_57), (.ref a_1)])) rfl rfl (hb hby own_d10_139)
  have z101 := W100.size
  have K100 : Keep h0 h100 [a_1] := K96.wr W100 (Or.inl (List.mem_of_getElem? (i := 0) rfl))
  have N100 := Fr.snoc X100 N96 (by omega : n0 ≤ a_1)
  have Fw100 : Fld Z h100 a_1 own_N1 "occurrences" "[I" (.ref x_57) := Fld.same W100 f99
  refine own_go (fun _ k => st100 _ k) ?_
  show own_Go _ _ _ _ T100 (mkF m 142 #[.val (.ref a_1), .val (.int 1), .val (.ref b20), .val (.ref b39), .val (.ref b48), .val (.ref x_57)] [])
  obtain ⟨fs, hr, hrun, hended, hW, hsame⟩ := X100.leave (v := none) (fun _ => rfl)
  refine ⟨_, _, X100.returnOut hx Bd.returns (hb hby own_d10_142) hr, hrun, hended, _, _, rfl, ?_, ⟨_, rfl⟩, hW, hsame.mono (by rw [y81]; decide) (by rw [z81]; decide)⟩
  show own_Q10_s3 Z a_1 g_lam ob2 ob1 ob0 u_0 u_1 u_2 h0 n0 _ T100.heap _
  rw [e100]
  have f103 := (f98.wr W100)
  have f104 := (((((((f50.keep K55q (ninS (own_ne (by omega)) nin0)).ext E66).other W70 (Or.inr (slot_ne (Or.inl (own_w15 hw)) (Or.inl (own_w105 hw)) (by decide) (t := (.array .int)) (t' := (.array .int)) (by decide) (by decide)))).keep K81q (ninS (own_ne (by omega)) nin0)).other W92 (Or.inr (slot_ne (Or.inl (own_w15 hw)) (Or.inl (own_w107 hw)) (by decide) (t := (.array .int)) (t' := (.array .int)) (by decide) (by decide)))).other W96 (Or.inr (slot_ne (Or.inl (own_w15 hw)) (Or.inl (own_w109 hw)) (by decide) (t := (.array .int)) (t' := (.array .int)) (by decide) (by decide)))).other W100 (Or.inr (slot_ne (Or.inl (own_w15 hw)) (Or.inl (own_w22 hw)) (by decide) (t := (.array .int)) (t' := (.array .int)) (by decide) (by decide))))
  have f105 := (((((((((((f25.keep K31q (ninS (own_ne (by omega)) nin0)).ext E39).keep K42q (ninS (own_ne (by omega)) nin0)).ext E48).keep K55q (ninS (own_ne (by omega)) nin0)).ext E66).other W70 (Or.inr (slot_ne (Or.inl (own_w13 hw)) (Or.inl (own_w105 hw)) (by decide) (t := (.array .int)) (t' := (.array .int)) (by decide) (by decide)))).keep K81q (ninS (own_ne (by omega)) nin0)).other W92 (Or.inr (slot_ne (Or.inl (own_w13 hw)) (Or.inl (own_w107 hw)) (by decide) (t := (.array .int)) (t' := (.array .int)) (by decide) (by decide)))).other W96 (Or.inr (slot_ne (Or.inl (own_w13 hw)) (Or.inl (own_w109 hw)) (by decide) (t := (.array .int)) (t' := (.array .int)) (by decide) (by decide)))).other W100 (Or.inr (slot_ne (Or.inl (own_w13 hw)) (Or.inl (own_w22 hw)) (by decide) (t := (.array .int)) (t' := (.array .int)) (by decide) (by decide))))
  have f106 := ((((f74.keep K81q (ninS (own_ne (by omega)) nin0)).other W92 (Or.inr (slot_ne (Or.inl (own_w47 hw)) (Or.inl (own_w107 hw)) (by decide) (t := .int) (t' := (.array .int)) (by decide) (by decide)))).other W96 (Or.inr (slot_ne (Or.inl (own_w47 hw)) (Or.inl (own_w109 hw)) (by decide) (t := .int) (t' := (.array .int)) (by decide) (by decide)))).other W100 (Or.inr (slot_ne (Or.inl (own_w47 hw)) (Or.inl (own_w22 hw)) (by decide) (t := .int) (t' := (.array .int)) (by decide) (by decide))))
  have f107 := ((((Fw70.keep K81q (ninS (own_ne (by omega)) nin0)).other W92 (Or.inr (slot_ne (Or.inl (own_w105 hw)) (Or.inl (own_w107 hw)) (by decide) (t := (.array .int)) (t' := (.array .int)) (by decide) (by decide)))).other W96 (Or.inr (slot_ne (Or.inl (own_w105 hw)) (Or.inl (own_w109 hw)) (by decide) (t := (.array .int)) (t' := (.array .int)) (by decide) (by decide)))).other W100 (Or.inr (slot_ne (Or.inl (own_w105 hw)) (Or.inl (own_w22 hw)) (by decide) (t := (.array .int)) (t' := (.array .int)) (by decide) (by decide))))
  have f108 := ((Fw92.other W96 (Or.inr (slot_ne (Or.inl (own_w107 hw)) (Or.inl (own_w109 hw)) (by decide) (t := (.array .int)) (t' := (.array .int)) (by decide) (by decide)))).other W100 (Or.inr (slot_ne (Or.inl (own_w107 hw)) (Or.inl (own_w22 hw)) (by decide) (t := (.array .int)) (t' := (.array .int)) (by decide) (by decide))))
  have f109 := ((((f72.keep K81q (ninS (own_ne (by omega)) nin0)).other W92 (Or.inr (slot_ne (Or.inl (own_w11 hw)) (Or.inl (own_w107 hw)) (by decide) (t := (.array .int)) (t' := (.array .int)) (by decide) (by decide)))).other W96 (Or.inr (slot_ne (Or.inl (own_w11 hw)) (Or.inl (own_w109 hw)) (by decide) (t := (.array .int)) (t' := (.array .int)) (by decide) (by decide)))).other W100 (Or.inr (slot_ne (Or.inl (own_w11 hw)) (Or.inl (own_w22 hw)) (by decide) (t := (.array .int)) (t' := (.array .int)) (by decide) (by decide))))
  have f110 := (Fw96.other W100 (Or.inr (slot_ne (Or.inl (own_w109 hw)) (Or.inl (own_w22 hw)) (by decide) (t := (.array .int)) (t' := (.array .int)) (by decide) (by decide))))
  have f111 := ((((f80.keep K81q (ninS (own_ne (by omega)) nin0)).other W92 (Or.inr (slot_ne (Or.inl (own_w24 hw)) (Or.inl (own_w107 hw)) (by decide) (t := .int) (t' := (.array .int)) (by decide) (by decide)))).other W96 (Or.inr (slot_ne (Or.inl (own_w24 hw)) (Or.inl (own_w109 hw)) (by decide) (t := .int) (t' := (.array .int)) (by decide) (by decide)))).other W100 (Or.inr (slot_ne (Or.inl (own_w24 hw)) (Or.inl (own_w22 hw)) (by decide) (t := .int) (t' := (.array .int)) (by decide) (by decide))))
  have f112 := (((f84.other W92 (own_ne (by omega))).other W96 (own_ne (by omega))).other W100 (own_ne (by omega)))
  have f113 := (((f85.other W92 (own_ne (by omega))).other W96 (own_ne (by omega))).other W100 (own_ne (by omega)))
  have f114 := ((((((f58.ext E66).other W70 (own_ne (by omega))).keep K81q (ninS (own_ne (by omega)) nin0)).other W92 (own_ne (by omega))).other W96 (own_ne (by omega))).other W100 (own_ne (by omega)))
  have f115 := ((((((f59.ext E66).other W70 (own_ne (by omega))).keep K81q (ninS (own_ne (by omega)) nin0)).other W92 (own_ne (by omega))).other W96 (own_ne (by omega))).other W100 (own_ne (by omega)))
  exact ⟨b66, x_83, b48, x_57, rfl, N100, K100, f103, f104, f105, f106, f107, f108, f109, f110, Fw100, f111, f112, f113, f114, f115, (by omega), (by omega), (by omega), (by omega), (by simp only [own_lts, and_true]; omega)⟩
theorem own_ef_own_rm19_s2 (m : MethodId) (x0 : Addr) : entryFrame m #[(.ref x0), (.int 2)] 2 = mkF m 0 #[.val (.ref x0), .val (.int 2)] [] := by first | (simp [entryFrame, mkF, argsToLocals, Value.category]; done) | rfl
def own_Q19_s2 (Z : State) (a_1 : Addr) (u_0 : Value) (u_1 : Value) (u_2 : Value) (u_3 : Value) (h0 : Heap) (n0 : Nat) (v : Option Value) (h : Heap) (L : List Loc) : Prop := ∃ (x_0 : Addr) (x_1 : Addr) (x_2 : Addr), v = none ∧ Fr n0 L ∧ Keep h0 h [a_1] ∧ Exa Z h a_1 own_N0 ∧ Fld Z h a_1 own_N0 "order" "[I" (.ref x_0) ∧ Fld Z h a_1 own_N0 "reasons" "[I" (.ref x_1) ∧ Fld Z h a_1 own_N0 "size" "I" u_3 ∧ Fld Z h a_1 own_N0 "values" "[Z" (.ref x_2) ∧ own_AV Z h x_0 .int 2 (fun _ => (.int 0)) ∧ own_AV Z h x_1 .int 2 (fun _ => (.int 0)) ∧ own_AV Z h x_2 .boolean (2 : Int32) (fun _ => (.int 0)) ∧ (h0.size ≤ x_0) ∧ (h0.size ≤ x_1) ∧ (h0.size ≤ x_2) ∧ (own_lts [x_2, x_1, x_0])
set_option maxRecDepth 65536 in
set_option maxHeartbeats 40000000 in
theorem own_rm19_s2 (l : Launch) (Z : State) (a0 : Array Value) (hw : ∀ d ∈ tables_1, d.before a0 Z = true) (ws : List Jvm.Cond) (a_1 : Addr) (u_0 : Value) (u_1 : Value) (u_2 : Value) (u_3 : Value) (h0 : Heap) (n0 : Nat) (Z0 : n0 ≤ h0.size) (pr_E_a_1 : Exa Z h0 a_1 own_N0) (pr_F_a_1_order : Fld Z h0 a_1 own_N0 "order" "[I" u_2) (pr_F_a_1_reasons : Fld Z h0 a_1 own_N0 "reasons" "[I" u_1) (pr_F_a_1_size : Fld Z h0 a_1 own_N0 "size" "I" u_3) (pr_F_a_1_values : Fld Z h0 a_1 own_N0 "values" "[Z" u_0) (gw_a_1 : n0 ≤ a_1) :
    MetFree l (⟨own_N0, "<init>", "(I)V"⟩ : MethodName) (head1 (Jvm.Cond.code (⟨own_N0, "<init>", "(I)V"⟩ : MethodName) prog_7_method_1_code 2 none :: ws) ({ frames := 1, cells := 3, slots := 6, locals := 12 } : Room)) (fun a U => a = #[(.ref a_1), (.int 2)] ∧ Z.Warmed39 U.vm ∧ U.heap = h0) (fun _ _ _ _ _ => True) (fun _ U o U' => ∃ v L, o = .returned v ∧ own_Q19_s2 Z a_1 u_0 u_1 u_2 u_3 h0 n0 v U'.heap L ∧ FrameEnd U o U' L ({ frames := 1, cells := 3, slots := 6, locals := 12 } : Room).cells ({ frames := 1, cells := 3, slots := 6, locals := 12 } : Room).slots) := by
  refine MetFree.of_bodySF (plainFor_of_name own_pn3) hisR ?_
  intro p e s m args below meth c s₁ Bd hml0 hP hK
  obtain ⟨rfl, hZ, hh⟩ := hP
  have hx := Bd.exec
  have hby := Bd.bytes
  have hml : c.maxLocals = 2 := hml0
  have hown : s.vm.findClass own_N0 = some m.cls := findClass_of_methodNamed Bd.named
  have hnm := (name_of_methodNamed Bd.named Bd.method).1
  have X0 : Stand p l e ({ frames := 1, cells := 3, slots := 6, locals := 12 } : Room) s m #[(.ref a_1), (.int 2)] below meth c s₁ [] 0 0 := Stand.of_body Bd
  have e0 : s₁.heap = h0 := by rw [← hh, Bd.state]; rfl
  have N0 := Fr.nil n0
  have z0 : n0 ≤ h0.size := Z0
  have z1 := own_lt pr_E_a_1.lt
  have z2 := own_lt pr_F_a_1_order.lt
  have z3 := own_lt pr_F_a_1_reasons.lt
  have z4 := own_lt pr_F_a_1_size.lt
  have z5 := own_lt pr_F_a_1_values.lt
  have K0 : Keep h0 h0 [a_1] := Keep.refl h0 _
  show own_Go p.tables e below (fun t o => t.status = .running ∧ Ended t below o ∧ ∃ v L, o = .returned v ∧ own_Q19_s2 Z a_1 u_0 u_1 u_2 u_3 h0 n0 v t.heap L ∧ FrameEnd s o t L ({ frames := 1, cells := 3, slots := 6, locals := 12 } : Room).cells ({ frames := 1, cells := 3, slots := 6, locals := 12 } : Room).slots) s₁ (entryFrame m #[(.ref a_1), (.int 2)] 2)
  rw [own_ef_own_rm19_s2 m a_1]
  show own_Go _ _ _ _ s₁ (mkF m 0 #[.val (.ref a_1), .val (.int 2)] [])
  refine own_go (fun _ k => XS.aloadN X0.here hx rfl (hb hby own_d19_0) rfl rfl k) ?_
  obtain ⟨T6, X6, e6, st6⟩ := initO X0 hx hZ hown (hw _ (List.mem_of_getElem? (i := 116) rfl)) (hw _ (List.mem_of_getElem? (i := 7) rfl)) (hw _ (List.mem_of_getElem? (i := 8) rfl)) e0 (g := (mkF m 1 #[.val (.ref a_1), .val (.int 2)] [(.ref a_1)])) rfl (by rw [hml]; rfl) rfl (hb hby own_d19_1) (by decide) (W := 0) (by show 2 * 0 + _ ≤ _; exact Nat.le_of_eq rfl) (by decide)
  refine own_go (fun _ k => st6 _ k) ?_
  show own_Go _ _ _ _ T6 (mkF m 4 #[.val (.ref a_1), .val (.int 2)] [])
  refine own_go (fun _ k => XS.aloadN X6.here hx rfl (hb hby own_d19_4) rfl rfl (XS.iloadN X6.here hx rfl (hb hby own_d19_5) rfl k)) ?_
  obtain ⟨T7, h7, k7, X7, e7, E7, A7, st7⟩ := newP X6 hx hZ (hw _ (List.mem_of_getElem? (i := 117) rfl)) e6 (g := (mkF m 6 #[.val (.ref a_1), .val (.int 2)] [(.int 2), (.ref a_1)])) rfl (hb hby own_d19_6) rfl (by decide) (cap := 2) (by decide) (by decide) (by decide) (by decide)
  obtain ⟨b7, g7⟩ : ∃ z, z = h0.size := ⟨_, rfl⟩
  rw [← g7] at A7 st7
  have z8 := E7.1
  have lt_b7 := own_lt A7.lt
  have K7 : Keep h0 h7 [a_1] := K0.ext E7
  have V_b7 : own_AV Z h7 b7 .boolean (2 : Int32) (fun _ => (.int 0)) := own_AV.new A7 (by decide)
  refine own_go (fun _ k => st7 _ k) ?_
  show own_Go _ _ _ _ T7 (mkF m 8 #[.val (.ref a_1), .val (.int 2)] [(.ref b7), (.ref a_1)])
  have f9 := (pr_E_a_1.ext E7)
  have f10 := (pr_F_a_1_values.ext E7)
  obtain ⟨T11, h11, X11, e11, W11, st11⟩ := putF X7 hx hZ hown (host := "") (Or.inl (own_w118 hw)) Via.refl e7 f10 f9 (Or.inr ⟨(own_w119 hw), rfl, hnm⟩) (own_w111 hw) (ty := (.array .boolean)) (by decide) rfl rfl (g := (mkF m 8 #[.val (.ref a_1), .val (.int 2)] [(.ref b7), (.ref a_1)])) rfl rfl (hb hby own_d19_8)
  have z12 := W11.size
  have K11 : Keep h0 h11 [a_1] := K7.wr W11 (Or.inl (List.mem_of_getElem? (i := 0) rfl))
  have N11 := Fr.snoc X11 N0 (by omega : n0 ≤ a_1)
  have Fw11 : Fld Z h11 a_1 own_N0 "values" "[Z" (.ref b7) := Fld.same W11 f10
  refine own_go (fun _ k => st11 _ k) ?_
  show own_Go _ _ _ _ T11 (mkF m 11 #[.val (.ref a_1), .val (.int 2)] [])
  refine own_go (fun _ k => XS.aloadN X11.here hx rfl (hb hby own_d19_11) rfl rfl (XS.iloadN X11.here hx rfl (hb hby own_d19_12) rfl k)) ?_
  obtain ⟨T13, h13, k13, X13, e13, E13, A13, st13⟩ := newP X11 hx hZ (hw _ (List.mem_of_getElem? (i := 9) rfl)) e11 (g := (mkF m 13 #[.val (.ref a_1), .val (.int 2)] [(.int 2), (.ref a_1)])) rfl (hb hby own_d19_13) rfl (by decide) (cap := 2) (by decide) (by decide) (by decide) (by decide)
  obtain ⟨b13, g13⟩ : ∃ z, z = h11.size := ⟨_, rfl⟩
  rw [← g13] at A13 st13
  have z14 := E13.1
  have lt_b13 := own_lt A13.lt
  have K13 : Keep h0 h13 [a_1] := K11.ext E13
  have V_b13 : own_AV Z h13 b13 .int 2 (fun _ => (.int 0)) := own_AV.new A13 (by decide)
  refine own_go (fun _ k => st13 _ k) ?_
  show own_Go _ _ _ _ T13 (mkF m 15 #[.val (.ref a_1), .val (.int 2)] [(.ref b13), (.ref a_1)])
  have f15 := ((f9.wr W11).ext E13)
  have f16 := (((pr_F_a_1_reasons.ext E7).other W11 (Or.inr (slot_ne (Or.inr (own_w121 hw)) (Or.inr (own_w119 hw)) (by decide) (t := (.array .int)) (t' := (.array .boolean)) (by decide) (by decide)))).ext E13)
  obtain ⟨T17, h17, X17, e17, W17, st17⟩ := putF X13 hx hZ hown (host := "") (Or.inl (hw _ (List.mem_of_getElem? (i := 120) rfl))) Via.refl e13 f16 f15 (Or.inr ⟨(own_w121 hw), rfl, hnm⟩) (own_w111 hw) (ty := (.array .int)) (by decide) rfl rfl (g := (mkF m 15 #[.val (.ref a_1), .val (.int 2)] [(.ref b13), (.ref a_1)])) rfl rfl (hb hby own_d19_15)
  have z18 := W17.size
  have K17 : Keep h0 h17 [a_1] := K13.wr W17 (Or.inl (List.mem_of_getElem? (i := 0) rfl))
  have N17 := Fr.snoc X17 N11 (by omega : n0 ≤ a_1)
  have Fw17 : Fld Z h17 a_1 own_N0 "reasons" "[I" (.ref b13) := Fld.same W17 f16
  refine own_go (fun _ k => st17 _ k) ?_
  show own_Go _ _ _ _ T17 (mkF m 18 #[.val (.ref a_1), .val (.int 2)] [])
  refine own_go (fun _ k => XS.aloadN X17.here hx rfl (hb hby own_d19_18) rfl rfl (XS.iloadN X17.here hx rfl (hb hby own_d19_19) rfl k)) ?_
  obtain ⟨T19, h19, k19, X19, e19, E19, A19, st19⟩ := newP X17 hx hZ (hw _ (List.mem_of_getElem? (i := 9) rfl)) e17 (g := (mkF m 20 #[.val (.ref a_1), .val (.int 2)] [(.int 2), (.ref a_1)])) rfl (hb hby own_d19_20) rfl (by decide) (cap := 2) (by decide) (by decide) (by decide) (by decide)
  obtain ⟨b19, g19⟩ : ∃ z, z = h17.size := ⟨_, rfl⟩
  rw [← g19] at A19 st19
  have z20 := E19.1
  have lt_b19 := own_lt A19.lt
  have K19 : Keep h0 h19 [a_1] := K17.ext E19
  have V_b19 : own_AV Z h19 b19 .int 2 (fun _ => (.int 0)) := own_AV.new A19 (by decide)
  refine own_go (fun _ k => st19 _ k) ?_
  show own_Go _ _ _ _ T19 (mkF m 22 #[.val (.ref a_1), .val (.int 2)] [(.ref b19), (.ref a_1)])
  have f21 := ((f15.wr W17).ext E19)
  have f22 := (((((pr_F_a_1_order.ext E7).other W11 (Or.inr (slot_ne (Or.inr (own_w123 hw)) (Or.inr (own_w119 hw)) (by decide) (t := (.array .int)) (t' := (.array .boolean)) (by decide) (by decide)))).ext E13).other W17 (Or.inr (slot_ne (Or.inr (own_w123 hw)) (Or.inr (own_w121 hw)) (by decide) (t := (.array .int)) (t' := (.array .int)) (by decide) (by decide)))).ext E19)
  obtain ⟨T23, h23, X23, e23, W23, st23⟩ := putF X19 hx hZ hown (host := "") (Or.inl (own_w122 hw)) Via.refl e19 f22 f21 (Or.inr ⟨(own_w123 hw), rfl, hnm⟩) (own_w111 hw) (ty := (.array .int)) (by decide) rfl rfl (g := (mkF m 22 #[.val (.ref a_1), .val (.int 2)] [(.ref b19), (.ref a_1)])) rfl rfl (hb hby own_d19_22)
  have z24 := W23.size
  have K23 : Keep h0 h23 [a_1] := K19.wr W23 (Or.inl (List.mem_of_getElem? (i := 0) rfl))
  have N23 := Fr.snoc X23 N17 (by omega : n0 ≤ a_1)
  have Fw23 : Fld Z h23 a_1 own_N0 "order" "[I" (.ref b19) := Fld.same W23 f22
  refine own_go (fun _ k => st23 _ k) ?_
  show own_Go _ _ _ _ T23 (mkF m 25 #[.val (.ref a_1), .val (.int 2)] [])
  obtain ⟨fs, hr, hrun, hended, hW, hsame⟩ := X23.leave (v := none) (fun _ => rfl)
  refine ⟨_, _, X23.returnOut hx Bd.returns (hb hby own_d19_25) hr, hrun, hended, _, _, rfl, ?_, ⟨_, rfl⟩, hW, hsame.mono (by decide) (by decide)⟩
  show own_Q19_s2 Z a_1 u_0 u_1 u_2 u_3 h0 n0 _ T23.heap _
  rw [e23]
  have f26 := (f21.wr W23)
  have f27 := ((Fw17.ext E19).other W23 (Or.inr (slot_ne (Or.inr (own_w121 hw)) (Or.inr (own_w123 hw)) (by decide) (t := (.array .int)) (t' := (.array .int)) (by decide) (by decide))))
  have f28 := ((((((pr_F_a_1_size.ext E7).other W11 (Or.inr (slot_ne (Or.inl (own_w130 hw)) (Or.inr (own_w119 hw)) (by decide) (t := .int) (t' := (.array .boolean)) (by decide) (by decide)))).ext E13).other W17 (Or.inr (slot_ne (Or.inl (own_w130 hw)) (Or.inr (own_w121 hw)) (by decide) (t := .int) (t' := (.array .int)) (by decide) (by decide)))).ext E19).other W23 (Or.inr (slot_ne (Or.inl (own_w130 hw)) (Or.inr (own_w123 hw)) (by decide) (t := .int) (t' := (.array .int)) (by decide) (by decide))))
  have f29 := ((((Fw11.ext E13).other W17 (Or.inr (slot_ne (Or.inr (own_w119 hw)) (Or.inr (own_w121 hw)) (by decide) (t := (.array .boolean)) (t' := (.array .int)) (by decide) (by decide)))).ext E19).other W23 (Or.inr (slot_ne (Or.inr (own_w119 hw)) (Or.inr (own_w123 hw)) (by decide) (t := (.array .boolean)) (t' := (.array .int)) (by decide) (by decide))))
  have f30 := (V_b19.other W23 (own_ne (by omega)))
  have f31 := (((V_b13.other W17 (own_ne (by omega))).ext E19).other W23 (own_ne (by omega)))
  have f32 := (((((V_b7.other W11 (own_ne (by omega))).ext E13).other W17 (own_ne (by omega))).ext E19).other W23 (own_ne (by omega)))
  exact ⟨b19, b13, b7, rfl, N23, K23, f26, Fw23, f27, f28, f29, f30, f31, f32, (by omega), (by omega), (by omega), (by simp only [own_lts, and_true]; omega)⟩
theorem own_ef_own_rm20_s4 (m : MethodId) (x0 : Addr) : entryFrame m #[(.ref x0), (.int 0), (.int (-1))] 3 = mkF m 0 #[.val (.ref x0), .val (.int 0), .val (.int (-1))] [] := by first | (simp [entryFrame, mkF, argsToLocals, Value.category]; done) | rfl
def own_Q20_s4 (Z : State) (a_1 : Addr) (ob2 : Addr) (ob1 : Addr) (ob0 : Addr) (h0 : Heap) (n0 : Nat) (v : Option Value) (h : Heap) (L : List Loc) : Prop := v = none ∧ Fr n0 L ∧ Keep h0 h [ob0, ob1, ob2, a_1] ∧ own_AV Z h ob0 .boolean (2 : Int32) (own_upd (fun _ => (.int 0)) 0 (.int 1)) ∧ own_AV Z h ob1 .int 2 (own_upd (fun _ => (.int 0)) 0 (.int (-1))) ∧ own_AV Z h ob2 .int 2 (own_upd (fun _ => (.int 0)) 0 (.int 0)) ∧ Exa Z h a_1 own_N0 ∧ Fld Z h a_1 own_N0 "order" "[I" (.ref ob2) ∧ Fld Z h a_1 own_N0 "reasons" "[I" (.ref ob1) ∧ Fld Z h a_1 own_N0 "size" "I" (.int 1) ∧ Fld Z h a_1 own_N0 "values" "[Z" (.ref ob0)
set_option maxRecDepth 65536 in
set_option maxHeartbeats 40000000 in
theorem own_rm20_s4 (l : Launch) (Z : State) (a0 : Array Value) (hw : ∀ d ∈ tables_1, d.before a0 Z = true) (ws : List Jvm.Cond) (a_1 : Addr) (ob2 : Addr) (ob1 : Addr) (ob0 : Addr) (h0 : Heap) (n0 : Nat) (Z0 : n0 ≤ h0.size) (pr_A_ob0 : own_AV Z h0 ob0 .boolean (2 : Int32) (fun _ => (.int 0))) (pr_A_ob1 : own_AV Z h0 ob1 .int 2 (fun _ => (.int 0))) (pr_A_ob2 : own_AV Z h0 ob2 .int 2 (fun _ => (.int 0))) (pr_E_a_1 : Exa Z h0 a_1 own_N0) (pr_F_a_1_order : Fld Z h0 a_1 own_N0 "order" "[I" (.ref ob2)) (pr_F_a_1_reasons : Fld Z h0 a_1 own_N0 "reasons" "[I" (.ref ob1)) (pr_F_a_1_size : Fld Z h0 a_1 own_N0 "size" "I" (.int 0)) (pr_F_a_1_values : Fld Z h0 a_1 own_N0 "values" "[Z" (.ref ob0)) (ho_ : own_lts [a_1, ob0, ob1, ob2]) (gw_ob0 : n0 ≤ ob0) (gw_ob1 : n0 ≤ ob1) (gw_ob2 : n0 ≤ ob2) (gw_a_1 : n0 ≤ a_1) :
    MetFree l (⟨own_N0, "assign", "(II)V"⟩ : MethodName) (head1 (Jvm.Cond.code (⟨own_N0, "assign", "(II)V"⟩ : MethodName) prog_7_method_2_code 3 none :: ws) ({ frames := 0, cells := 0, slots := 0, locals := 0 } : Room)) (fun a U => a = #[(.ref a_1), (.int 0), (.int (-1))] ∧ Z.Warmed39 U.vm ∧ U.heap = h0) (fun _ _ _ _ _ => True) (fun _ U o U' => ∃ v L, o = .returned v ∧ own_Q20_s4 Z a_1 ob2 ob1 ob0 h0 n0 v U'.heap L ∧ FrameEnd U o U' L ({ frames := 0, cells := 0, slots := 0, locals := 0 } : Room).cells ({ frames := 0, cells := 0, slots := 0, locals := 0 } : Room).slots) := by
  refine MetFree.of_bodySF (plainFor_of_name own_pn3) hisR ?_
  intro p e s m args below meth c s₁ Bd hml0 hP hK
  obtain ⟨rfl, hZ, hh⟩ := hP
  have hx := Bd.exec
  have hby := Bd.bytes
  have hml : c.maxLocals = 3 := hml0
  have hown : s.vm.findClass own_N0 = some m.cls := findClass_of_methodNamed Bd.named
  have hnm := (name_of_methodNamed Bd.named Bd.method).1
  have X0 : Stand p l e ({ frames := 0, cells := 0, slots := 0, locals := 0 } : Room) s m #[(.ref a_1), (.int 0), (.int (-1))] below meth c s₁ [] 0 0 := Stand.of_body Bd
  have e0 : s₁.heap = h0 := by rw [← hh, Bd.state]; rfl
  have N0 := Fr.nil n0
  have z0 : n0 ≤ h0.size := Z0
  have z1 := own_lt pr_A_ob0.lt
  have z2 := own_lt pr_A_ob1.lt
  have z3 := own_lt pr_A_ob2.lt
  have z4 := own_lt pr_E_a_1.lt
  have z5 := own_lt pr_F_a_1_order.lt
  have z6 := own_lt pr_F_a_1_reasons.lt
  have z7 := own_lt pr_F_a_1_size.lt
  have z8 := own_lt pr_F_a_1_values.lt
  have ho9 := ho_
  simp only [own_lts, and_true] at ho9
  have K0 : Keep h0 h0 [ob0, ob1, ob2, a_1] := Keep.refl h0 _
  show own_Go p.tables e below (fun t o => t.status = .running ∧ Ended t below o ∧ ∃ v L, o = .returned v ∧ own_Q20_s4 Z a_1 ob2 ob1 ob0 h0 n0 v t.heap L ∧ FrameEnd s o t L ({ frames := 0, cells := 0, slots := 0, locals := 0 } : Room).cells ({ frames := 0, cells := 0, slots := 0, locals := 0 } : Room).slots) s₁ (entryFrame m #[(.ref a_1), (.int 0), (.int (-1))] 3)
  rw [own_ef_own_rm20_s4 m a_1]
  show own_Go _ _ _ _ s₁ (mkF m 0 #[.val (.ref a_1), .val (.int 0), .val (.int (-1))] [])
  refine own_go (fun _ k => XS.aloadN X0.here hx rfl (hb hby own_d20_0) rfl rfl k) ?_
  obtain ⟨T10, X10, e10, st10⟩ := getF X0 hx hZ hown (host := "") (Or.inl (own_w118 hw)) Via.refl e0 pr_F_a_1_values (g := (mkF m 1 #[.val (.ref a_1), .val (.int 0), .val (.int (-1))] [(.ref a_1)])) rfl rfl (hb hby own_d20_1)
  refine own_go (fun _ k => st10 _ k) ?_
  show own_Go _ _ _ _ T10 (mkF m 4 #[.val (.ref a_1), .val (.int 0), .val (.int (-1))] [(.ref ob0)])
  refine own_go (fun _ k => XS.iloadN X10.here hx rfl (hb hby own_d20_4) rfl k) ?_
  obtain ⟨q11, c11, R11, s11, t11⟩ := id pr_A_ob0
  have hin11 : ¬ ((0 : Int32) < 0 ∨ c11.slots.size ≤ ((0 : Int32)).toNatClampNeg) := inb_of s11 ⟨by decide, by decide⟩
  have u11 : c11.slots[((0 : Int32)).toNatClampNeg]? = some (.int 0) := own_at (k := 0) t11 s11 hin11 (by decide) (rfl)
  refine own_go (fun _ k => X10.baloadBooleans hx (j := (0 : Int32)) (v := (.int 0)) (by rw [e10]; exact R11.1) (State.isArrayOf_alike hZ.alike R11.2.1) R11.2.2 hin11 u11 (g := (mkF m 5 #[.val (.ref a_1), .val (.int 0), .val (.int (-1))] [(.int 0), (.ref ob0)])) rfl rfl (hb hby own_d20_5) _ k) ?_
  show own_Go _ _ _ _ T10 (mkF m 6 #[.val (.ref a_1), .val (.int 0), .val (.int (-1))] [(.int 0)])
  have hc12 : (0 : Int32) = 0 := by decide
  refine own_go (fun _ k => XS.ifNo X10.here hx rfl (hb hby own_d20_6) rfl (Jvm.Free.XT.i0_ne_f hc12) (XS.aloadN X10.here hx rfl (hb hby own_d20_9) rfl rfl k)) ?_
  obtain ⟨T13, X13, e13, st13⟩ := getF X10 hx hZ hown (host := "") (Or.inl (own_w118 hw)) Via.refl e10 pr_F_a_1_values (g := (mkF m 10 #[.val (.ref a_1), .val (.int 0), .val (.int (-1))] [(.ref a_1)])) rfl rfl (hb hby own_d20_10)
  refine own_go (fun _ k => st13 _ k) ?_
  show own_Go _ _ _ _ T13 (mkF m 13 #[.val (.ref a_1), .val (.int 0), .val (.int (-1))] [(.ref ob0)])
  refine own_go (fun _ k => XS.iloadN X13.here hx rfl (hb hby own_d20_13) rfl (XS.iconst X13.here hx rfl (hb hby own_d20_14) k)) ?_
  obtain ⟨q14, c14, R14, s14, t14⟩ := id pr_A_ob0
  have hin14 : ¬ ((0 : Int32) < 0 ∨ c14.slots.size ≤ ((0 : Int32)).toNatClampNeg) := inb_of s14 ⟨by decide, by decide⟩
  obtain ⟨T15, h15, X15, e15, W15, st15⟩ := stZ X13 hx hZ e13 R14 (j := (0 : Int32)) hin14 (g := (mkF m 15 #[.val (.ref a_1), .val (.int 0), .val (.int (-1))] [(.int 1), (.int 0), (.ref ob0)])) rfl rfl (hb hby own_d20_15)
  rw [(show nar .boolean (1 : Int32) = (1 : Int32) from rfl)] at W15
  have V15 : own_AV Z h15 ob0 .boolean (2 : Int32) (own_upd (fun _ => (.int 0)) 0 (.int 1)) := own_AV.set (k := 0) pr_A_ob0 W15 (by decide)
  have z16 := W15.size
  have K15 : Keep h0 h15 [ob0, ob1, ob2, a_1] := K0.wr W15 (Or.inl (List.mem_of_getElem? (i := 0) rfl))
  have N15 := Fr.snoc X15 N0 (by omega : n0 ≤ ob0)
  refine own_go (fun _ k => st15 _ k) ?_
  show own_Go _ _ _ _ T15 (mkF m 16 #[.val (.ref a_1), .val (.int 0), .val (.int (-1))] [])
  refine own_go (fun _ k => XS.aloadN X15.here hx rfl (hb hby own_d20_16) rfl rfl k) ?_
  have f17 := (pr_F_a_1_reasons.other W15 (Or.inl (own_ne (by omega))))
  obtain ⟨T18, X18, e18, st18⟩ := getF X15 hx hZ hown (host := "") (Or.inl (hw _ (List.mem_of_getElem? (i := 120) rfl))) Via.refl e15 f17 (g := (mkF m 17 #[.val (.ref a_1), .val (.int 0), .val (.int (-1))] [(.ref a_1)])) rfl rfl (hb hby own_d20_17)
  refine own_go (fun _ k => st18 _ k) ?_
  show own_Go _ _ _ _ T18 (mkF m 20 #[.val (.ref a_1), .val (.int 0), .val (.int (-1))] [(.ref ob1)])
  refine own_go (fun _ k => XS.iloadN X18.here hx rfl (hb hby own_d20_20) rfl (XS.iloadN X18.here hx rfl (hb hby own_d20_21) rfl k)) ?_
  have f19 := (pr_A_ob1.other W15 (own_ne (by omega)))
  obtain ⟨q20, c20, R20, s20, t20⟩ := id f19
  have hin20 : ¬ ((0 : Int32) < 0 ∨ c20.slots.size ≤ ((0 : Int32)).toNatClampNeg) := inb_of s20 ⟨by decide, by decide⟩
  obtain ⟨T21, h21, X21, e21, W21, st21⟩ := stI X18 hx hZ e18 R20 (j := (0 : Int32)) hin20 (g := (mkF m 22 #[.val (.ref a_1), .val (.int 0), .val (.int (-1))] [(.int (-1)), (.int 0), (.ref ob1)])) rfl rfl (hb hby own_d20_22)
  have V21 : own_AV Z h21 ob1 .int 2 (own_upd (fun _ => (.int 0)) 0 (.int (-1))) := own_AV.set (k := 0) f19 W21 (by decide)
  have z22 := W21.size
  have K21 : Keep h0 h21 [ob0, ob1, ob2, a_1] := K15.wr W21 (Or.inl (List.mem_of_getElem? (i := 1) rfl))
  have N21 := Fr.snoc X21 N15 (by omega : n0 ≤ ob1)
  refine own_go (fun _ k => st21 _ k) ?_
  show own_Go _ _ _ _ T21 (mkF m 23 #[.val (.ref a_1), .val (.int 0), .val (.int (-1))] [])
  refine own_go (fun _ k => XS.aloadN X21.here hx rfl (hb hby own_d20_23) rfl rfl k) ?_
  have f23 := ((pr_F_a_1_order.other W15 (Or.inl (own_ne (by omega)))).other W21 (Or.inl (own_ne (by omega))))
  obtain ⟨T24, X24, e24, st24⟩ := getF X21 hx hZ hown (host := "") (Or.inl (own_w122 hw)) Via.refl e21 f23 (g := (mkF m 24 #[.val (.ref a_1), .val (.int 0), .val (.int (-1))] [(.ref a_1)])) rfl rfl (hb hby own_d20_24)
  refine own_go (fun _ k => st24 _ k) ?_
  show own_Go _ _ _ _ T24 (mkF m 27 #[.val (.ref a_1), .val (.int 0), .val (.int (-1))] [(.ref ob2)])
  refine own_go (fun _ k => XS.aloadN X24.here hx rfl (hb hby own_d20_27) rfl rfl k) ?_
  have f25 := ((pr_F_a_1_size.other W15 (Or.inl (own_ne (by omega)))).other W21 (Or.inl (own_ne (by omega))))
  obtain ⟨T26, X26, e26, st26⟩ := getF X24 hx hZ hown (host := "") (Or.inl (own_w129 hw)) Via.refl e24 f25 (g := (mkF m 28 #[.val (.ref a_1), .val (.int 0), .val (.int (-1))] [(.ref a_1), (.ref ob2)])) rfl rfl (hb hby own_d20_28)
  refine own_go (fun _ k => st26 _ k) ?_
  show own_Go _ _ _ _ T26 (mkF m 31 #[.val (.ref a_1), .val (.int 0), .val (.int (-1))] [(.int 0), (.ref ob2)])
  refine own_go (fun _ k => XS.iloadN X26.here hx rfl (hb hby own_d20_31) rfl k) ?_
  have f27 := ((pr_A_ob2.other W15 (own_ne (by omega))).other W21 (own_ne (by omega)))
  obtain ⟨q28, c28, R28, s28, t28⟩ := id f27
  have hin28 : ¬ ((0 : Int32) < 0 ∨ c28.slots.size ≤ ((0 : Int32)).toNatClampNeg) := inb_of s28 ⟨by decide, by decide⟩
  obtain ⟨T29, h29, X29, e29, W29, st29⟩ := stI X26 hx hZ e26 R28 (j := (0 : Int32)) hin28 (g := (mkF m 32 #[.val (.ref a_1), .val (.int 0), .val (.int (-1))] [(.int 0), (.int 0), (.ref ob2)])) rfl rfl (hb hby own_d20_32)
  have V29 : own_AV Z h29 ob2 .int 2 (own_upd (fun _ => (.int 0)) 0 (.int 0)) := own_AV.set (k := 0) f27 W29 (by decide)
  have z30 := W29.size
  have K29 : Keep h0 h29 [ob0, ob1, ob2, a_1] := K21.wr W29 (Or.inl (List.mem_of_getElem? (i := 2) rfl))
  have N29 := Fr.snoc X29 N21 (by omega : n0 ≤ ob2)
  refine own_go (fun _ k => st29 _ k) ?_
  show own_Go _ _ _ _ T29 (mkF m 33 #[.val (.ref a_1), .val (.int 0), .val (.int (-1))] [])
  refine own_go (fun _ k => XS.aloadN X29.here hx rfl (hb hby own_d20_33) rfl rfl (XS.dup X29.here hx rfl (hb hby own_d20_34) rfl rfl k)) ?_
  have f31 := (f25.other W29 (Or.inl (own_ne (by omega))))
  obtain ⟨T32, X32, e32, st32⟩ := getF X29 hx hZ hown (host := "") (Or.inl (own_w129 hw)) Via.refl e29 f31 (g := (mkF m 35 #[.val (.ref a_1), .val (.int 0), .val (.int (-1))] [(.ref a_1), (.ref a_1)])) rfl rfl (hb hby own_d20_35)
  refine own_go (fun _ k => st32 _ k) ?_
  show own_Go _ _ _ _ T32 (mkF m 38 #[.val (.ref a_1), .val (.int 0), .val (.int (-1))] [(.int 0), (.ref a_1)])
  refine own_go (fun _ k => XS.iconst X32.here hx rfl (hb hby own_d20_38) (XS.iadd X32.here hx rfl (hb hby own_d20_39) rfl k)) ?_
  have f33 := (((pr_E_a_1.wr W15).wr W21).wr W29)
  obtain ⟨T34, h34, X34, e34, W34, st34⟩ := putF X32 hx hZ hown (host := "") (Or.inl (own_w129 hw)) Via.refl e32 f31 f33 (Or.inl (own_w130 hw)) (own_w111 hw) (ty := .int) (by decide) rfl rfl (g := (mkF m 40 #[.val (.ref a_1), .val (.int 0), .val (.int (-1))] [(.int 1), (.ref a_1)])) rfl rfl (hb hby own_d20_40)
  have z35 := W34.size
  have K34 : Keep h0 h34 [ob0, ob1, ob2, a_1] := K29.wr W34 (Or.inl (List.mem_of_getElem? (i := 3) rfl))
  have N34 := Fr.snoc X34 N29 (by omega : n0 ≤ a_1)
  have Fw34 : Fld Z h34 a_1 own_N0 "size" "I" (.int 1) := Fld.same W34 f31
  refine own_go (fun _ k => st34 _ k) ?_
  show own_Go _ _ _ _ T34 (mkF m 43 #[.val (.ref a_1), .val (.int 0), .val (.int (-1))] [])
  obtain ⟨fs, hr, hrun, hended, hW, hsame⟩ := X34.leave (v := none) (fun _ => rfl)
  refine ⟨_, _, X34.returnOut hx Bd.returns (hb hby own_d20_43) hr, hrun, hended, _, _, rfl, ?_, ⟨_, rfl⟩, hW, hsame.mono (by decide) (by decide)⟩
  show own_Q20_s4 Z a_1 ob2 ob1 ob0 h0 n0 _ T34.heap _
  rw [e34]
  have f37 := (((V15.other W21 (own_ne (by omega))).other W29 (own_ne (by omega))).other W34 (own_ne (by omega)))
  have f38 := ((V21.other W29 (own_ne (by omega))).other W34 (own_ne (by omega)))
  have f39 := (V29.other W34 (own_ne (by omega)))
  have f40 := (f33.wr W34)
  have f41 := ((f23.other W29 (Or.inl (own_ne (by omega)))).other W34 (Or.inr (slot_ne (Or.inr (own_w123 hw)) (Or.inl (own_w130 hw)) (by decide) (t := (.array .int)) (t' := .int) (by decide) (by decide))))
  have f42 := (((f17.other W21 (Or.inl (own_ne (by omega)))).other W29 (Or.inl (own_ne (by omega)))).other W34 (Or.inr (slot_ne (Or.inr (own_w121 hw)) (Or.inl (own_w130 hw)) (by decide) (t := (.array .int)) (t' := .int) (by decide) (by decide))))
  have f43 := ((((pr_F_a_1_values.other W15 (Or.inl (own_ne (by omega)))).other W21 (Or.inl (own_ne (by omega)))).other W29 (Or.inl (own_ne (by omega)))).other W34 (Or.inr (slot_ne (Or.inr (own_w119 hw)) (Or.inl (own_w130 hw)) (by decide) (t := (.array .boolean)) (t' := .int) (by decide) (by decide))))
  exact ⟨rfl, N34, K34, f37, f38, f39, f40, f41, f42, Fw34, f43⟩
theorem own_ef_own_rm21_s4 (m : MethodId) (x0 : Addr) : entryFrame m #[(.ref x0), (.int 1)] 2 = mkF m 0 #[.val (.ref x0), .val (.int 1)] [] := by first | (simp [entryFrame, mkF, argsToLocals, Value.category]; done) | rfl
def own_Q21_s4 (Z : State) (a_1 : Addr) (ob0 : Addr) (h0 : Heap) (n0 : Nat) (v : Option Value) (h : Heap) (L : List Loc) : Prop := v = some (.int 0) ∧ Fr n0 L ∧ h = h0
set_option maxRecDepth 65536 in
set_option maxHeartbeats 40000000 in
theorem own_rm21_s4 (l : Launch) (Z : State) (a0 : Array Value) (hw : ∀ d ∈ tables_1, d.before a0 Z = true) (ws : List Jvm.Cond) (a_1 : Addr) (ob0 : Addr) (h0 : Heap) (n0 : Nat) (Z0 : n0 ≤ h0.size) (pr_A_ob0 : own_AV Z h0 ob0 .boolean (2 : Int32) (own_upd (fun _ => (.int 0)) 0 (.int 1))) (pr_F_a_1_values : Fld Z h0 a_1 own_N0 "values" "[Z" (.ref ob0)) (ho_ : own_lts [a_1, ob0]) :
    MetFree l (⟨own_N0, "isTrue", "(I)Z"⟩ : MethodName) (head1 (Jvm.Cond.code (⟨own_N0, "isTrue", "(I)Z"⟩ : MethodName) prog_7_method_3_code 2 (some .boolean) :: ws) ({ frames := 0, cells := 0, slots := 0, locals := 0 } : Room)) (fun a U => a = #[(.ref a_1), (.int 1)] ∧ Z.Warmed39 U.vm ∧ U.heap = h0) (fun _ _ _ _ _ => True) (fun _ U o U' => ∃ v L, o = .returned v ∧ own_Q21_s4 Z a_1 ob0 h0 n0 v U'.heap L ∧ FrameEnd U o U' L ({ frames := 0, cells := 0, slots := 0, locals := 0 } : Room).cells ({ frames := 0, cells := 0, slots := 0, locals := 0 } : Room).slots) := by
  refine MetFree.of_bodySF (plainFor_of_name own_pn3) hisR ?_
  intro p e s m args below meth c s₁ Bd hml0 hP hK
  obtain ⟨rfl, hZ, hh⟩ := hP
  have hx := Bd.exec
  have hby := Bd.bytes
  have hml : c.maxLocals = 2 := hml0
  have hown : s.vm.findClass own_N0 = some m.cls := findClass_of_methodNamed Bd.named
  have hnm := (name_of_methodNamed Bd.named Bd.method).1
  have X0 : Stand p l e ({ frames := 0, cells := 0, slots := 0, locals := 0 } : Room) s m #[(.ref a_1), (.int 1)] below meth c s₁ [] 0 0 := Stand.of_body Bd
  have e0 : s₁.heap = h0 := by rw [← hh, Bd.state]; rfl
  have N0 := Fr.nil n0
  have z0 : n0 ≤ h0.size := Z0
  have z1 := own_lt pr_A_ob0.lt
  have z2 := own_lt pr_F_a_1_values.lt
  have ho3 := ho_
  simp only [own_lts, and_true] at ho3
  show own_Go p.tables e below (fun t o => t.status = .running ∧ Ended t below o ∧ ∃ v L, o = .returned v ∧ own_Q21_s4 Z a_1 ob0 h0 n0 v t.heap L ∧ FrameEnd s o t L ({ frames := 0, cells := 0, slots := 0, locals := 0 } : Room).cells ({ frames := 0, cells := 0, slots := 0, locals := 0 } : Room).slots) s₁ (entryFrame m #[(.ref a_1), (.int 1)] 2)
  rw [own_ef_own_rm21_s4 m a_1]
  show own_Go _ _ _ _ s₁ (mkF m 0 #[.val (.ref a_1), .val (.int 1)] [])
  refine own_go (fun _ k => XS.aloadN X0.here hx rfl (hb hby own_d21_0) rfl rfl k) ?_
  obtain ⟨T4, X4, e4, st4⟩ := getF X0 hx hZ hown (host := "") (Or.inl (own_w118 hw)) Via.refl e0 pr_F_a_1_values (g := (mkF m 1 #[.val (.ref a_1), .val (.int 1)] [(.ref a_1)])) rfl rfl (hb hby own_d21_1)
  refine own_go (fun _ k => st4 _ k) ?_
  show own_Go _ _ _ _ T4 (mkF m 4 #[.val (.ref a_1), .val (.int 1)] [(.ref ob0)])
  refine own_go (fun _ k => XS.iloadN X4.here hx rfl (hb hby own_d21_4) rfl k) ?_
  obtain ⟨q5, c5, R5, s5, t5⟩ := id pr_A_ob0
  have hin5 : ¬ ((1 : Int32) < 0 ∨ c5.slots.size ≤ ((1 : Int32)).toNatClampNeg) := inb_of s5 ⟨by decide, by decide⟩
  have u5 : c5.slots[((1 : Int32)).toNatClampNeg]? = some (.int 0) := own_at (k := 1) t5 s5 hin5 (by decide) (rfl)
  refine own_go (fun _ k => X4.baloadBooleans hx (j := (1 : Int32)) (v := (.int 0)) (by rw [e4]; exact R5.1) (State.isArrayOf_alike hZ.alike R5.2.1) R5.2.2 hin5 u5 (g := (mkF m 5 #[.val (.ref a_1), .val (.int 1)] [(.int 1), (.ref ob0)])) rfl rfl (hb hby own_d21_5) _ k) ?_
  show own_Go _ _ _ _ T4 (mkF m 6 #[.val (.ref a_1), .val (.int 1)] [(.int 0)])
  obtain ⟨fs, hr, hrun, hended, hW, hsame⟩ := X4.leave (v := some (.int 0)) (fun h => by rw [Bd.returns] at h; cases h)
  refine ⟨_, _, retOut X4 hx Bd.returns rfl (Or.inl ⟨rfl, Or.inr (Or.inl rfl), _, rfl⟩) (hb hby own_d21_6) hr, hrun, hended, _, _, rfl, ?_, ⟨_, rfl⟩, hW, hsame.mono (by decide) (by decide)⟩
  show own_Q21_s4 Z a_1 ob0 h0 n0 _ T4.heap _
  rw [e4]
  exact ⟨rfl, N0, rfl⟩
theorem own_ef_own_rm23_s3 (m : MethodId) (x0 : Addr) : entryFrame m #[(.ref x0), (.int 0)] 2 = mkF m 0 #[.val (.ref x0), .val (.int 0)] [] := by first | (simp [entryFrame, mkF, argsToLocals, Value.category]; done) | rfl
def own_Q23_s3 (Z : State) (a_1 : Addr) (ob0 : Addr) (h0 : Heap) (n0 : Nat) (v : Option Value) (h : Heap) (L : List Loc) : Prop := v = some (.int 0) ∧ Fr n0 L ∧ h = h0
set_option maxRecDepth 65536 in
set_option maxHeartbeats 40000000 in
theorem own_rm23_s3 (l : Launch) (Z : State) (a0 : Array Value) (hw : ∀ d ∈ tables_1, d.before a0 Z = true) (ws : List Jvm.Cond) (a_1 : Addr) (ob0 : Addr) (h0 : Heap) (n0 : Nat) (Z0 : n0 ≤ h0.size) (pr_A_ob0 : own_AV Z h0 ob0 .int 2 (own_upd (fun _ => (.int 0)) 0 (.int 0))) (pr_F_a_1_order : Fld Z h0 a_1 own_N0 "order" "[I" (.ref ob0)) (ho_ : own_lts [a_1, ob0]) :
    MetFree l (⟨own_N0, "get", "(I)I"⟩ : MethodName) (head1 (Jvm.Cond.code (⟨own_N0, "get", "(I)I"⟩ : MethodName) prog_7_method_6_code 2 (some .int) :: ws) ({ frames := 0, cells := 0, slots := 0, locals := 0 } : Room)) (fun a U => a = #[(.ref a_1), (.int 0)] ∧ Z.Warmed39 U.vm ∧ U.heap = h0) (fun _ _ _ _ _ => True) (fun _ U o U' => ∃ v L, o = .returned v ∧ own_Q23_s3 Z a_1 ob0 h0 n0 v U'.heap L ∧ FrameEnd U o U' L ({ frames := 0, cells := 0, slots := 0, locals := 0 } : Room).cells ({ frames := 0, cells := 0, slots := 0, locals := 0 } : Room).slots) := by
  refine MetFree.of_bodySF (plainFor_of_name own_pn3) hisR ?_
  intro p e s m args below meth c s₁ Bd hml0 hP hK
  obtain ⟨rfl, hZ, hh⟩ := hP
  have hx := Bd.exec
  have hby := Bd.bytes
  have hml : c.maxLocals = 2 := hml0
  have hown : s.vm.findClass own_N0 = some m.cls := findClass_of_methodNamed Bd.named
  have hnm := (name_of_methodNamed Bd.named Bd.method).1
  have X0 : Stand p l e ({ frames := 0, cells := 0, slots := 0, locals := 0 } : Room) s m #[(.ref a_1), (.int 0)] below meth c s₁ [] 0 0 := Stand.of_body Bd
  have e0 : s₁.heap = h0 := by rw [← hh, Bd.state]; rfl
  have N0 := Fr.nil n0
  have z0 : n0 ≤ h0.size := Z0
  have z1 := own_lt pr_A_ob0.lt
  have z2 := own_lt pr_F_a_1_order.lt
  have ho3 := ho_
  simp only [own_lts, and_true] at ho3
  show own_Go p.tables e below (fun t o => t.status = .running ∧ Ended t below o ∧ ∃ v L, o = .returned v ∧ own_Q23_s3 Z a_1 ob0 h0 n0 v t.heap L ∧ FrameEnd s o t L ({ frames := 0, cells := 0, slots := 0, locals := 0 } : Room).cells ({ frames := 0, cells := 0, slots := 0, locals := 0 } : Room).slots) s₁ (entryFrame m #[(.ref a_1), (.int 0)] 2)
  rw [own_ef_own_rm23_s3 m a_1]
  show own_Go _ _ _ _ s₁ (mkF m 0 #[.val (.ref a_1), .val (.int 0)] [])
  refine own_go (fun _ k => XS.aloadN X0.here hx rfl (hb hby own_d23_0) rfl rfl k) ?_
  obtain ⟨T4, X4, e4, st4⟩ := getF X0 hx hZ hown (host := "") (Or.inl (own_w122 hw)) Via.refl e0 pr_F_a_1_order (g := (mkF m 1 #[.val (.ref a_1), .val (.int 0)] [(.ref a_1)])) rfl rfl (hb hby own_d23_1)
  refine own_go (fun _ k => st4 _ k) ?_
  show own_Go _ _ _ _ T4 (mkF m 4 #[.val (.ref a_1), .val (.int 0)] [(.ref ob0)])
  refine own_go (fun _ k => XS.iloadN X4.here hx rfl (hb hby own_d23_4) rfl k) ?_
  obtain ⟨q5, c5, R5, s5, t5⟩ := id pr_A_ob0
  have hin5 : ¬ ((0 : Int32) < 0 ∨ c5.slots.size ≤ ((0 : Int32)).toNatClampNeg) := inb_of s5 ⟨by decide, by decide⟩
  have u5 : c5.slots[((0 : Int32)).toNatClampNeg]? = some (.int 0) := own_at (k := 0) t5 s5 hin5 (by decide) (rfl)
  refine own_go (fun _ k => X4.iaload hx (j := (0 : Int32)) (v := (.int 0)) (by rw [e4]; exact R5.1) (State.isArrayOf_alike hZ.alike R5.2.1) R5.2.2 hin5 u5 (g := (mkF m 5 #[.val (.ref a_1), .val (.int 0)] [(.int 0), (.ref ob0)])) rfl rfl (hb hby own_d23_5) _ k) ?_
  show own_Go _ _ _ _ T4 (mkF m 6 #[.val (.ref a_1), .val (.int 0)] [(.int 0)])
  obtain ⟨fs, hr, hrun, hended, hW, hsame⟩ := X4.leave (v := some (.int 0)) (fun h => by rw [Bd.returns] at h; cases h)
  refine ⟨_, _, retOut X4 hx Bd.returns rfl (Or.inl ⟨rfl, Or.inl rfl, _, rfl⟩) (hb hby own_d23_6) hr, hrun, hended, _, _, rfl, ?_, ⟨_, rfl⟩, hW, hsame.mono (by decide) (by decide)⟩
  show own_Q23_s3 Z a_1 ob0 h0 n0 _ T4.heap _
  rw [e4]
  exact ⟨rfl, N0, rfl⟩
theorem own_ef_own_rm20_s5 (m : MethodId) (x0 : Addr) : entryFrame m #[(.ref x0), (.int 1), (.int 0)] 3 = mkF m 0 #[.val (.ref x0), .val (.int 1), .val (.int 0)] [] := by first | (simp [entryFrame, mkF, argsToLocals, Value.category]; done) | rfl
def own_Q20_s5 (Z : State) (a_1 : Addr) (ob2 : Addr) (ob1 : Addr) (ob0 : Addr) (h0 : Heap) (n0 : Nat) (v : Option Value) (h : Heap) (L : List Loc) : Prop := v = none ∧ Fr n0 L ∧ Keep h0 h [ob0, ob1, ob2, a_1] ∧ own_AV Z h ob0 .boolean (2 : Int32) (own_upd (own_upd (fun _ => (.int 0)) 0 (.int 1)) 1 (.int 1)) ∧ own_AV Z h ob1 .int 2 (own_upd (own_upd (fun _ => (.int 0)) 0 (.int (-1))) 1 (.int 0)) ∧ own_AV Z h ob2 .int 2 (own_upd (own_upd (fun _ => (.int 0)) 0 (.int 0)) 1 (.int 1)) ∧ Exa Z h a_1 own_N0 ∧ Fld Z h a_1 own_N0 "order" "[I" (.ref ob2) ∧ Fld Z h a_1 own_N0 "reasons" "[I" (.ref ob1) ∧ Fld Z h a_1 own_N0 "size" "I" (.int 2) ∧ Fld Z h a_1 own_N0 "values" "[Z" (.ref ob0)
set_option maxRecDepth 65536 in
set_option maxHeartbeats 40000000 in
theorem own_rm20_s5 (l : Launch) (Z : State) (a0 : Array Value) (hw : ∀ d ∈ tables_1, d.before a0 Z = true) (ws : List Jvm.Cond) (a_1 : Addr) (ob2 : Addr) (ob1 : Addr) (ob0 : Addr) (h0 : Heap) (n0 : Nat) (Z0 : n0 ≤ h0.size) (pr_A_ob0 : own_AV Z h0 ob0 .boolean (2 : Int32) (own_upd (fun _ => (.int 0)) 0 (.int 1))) (pr_A_ob1 : own_AV Z h0 ob1 .int 2 (own_upd (fun _ => (.int 0)) 0 (.int (-1)))) (pr_A_ob2 : own_AV Z h0 ob2 .int 2 (own_upd (fun _ => (.int 0)) 0 (.int 0))) (pr_E_a_1 : Exa Z h0 a_1 own_N0) (pr_F_a_1_order : Fld Z h0 a_1 own_N0 "order" "[I" (.ref ob2)) (pr_F_a_1_reasons : Fld Z h0 a_1 own_N0 "reasons" "[I" (.ref ob1)) (pr_F_a_1_size : Fld Z h0 a_1 own_N0 "size" "I" (.int 1)) (pr_F_a_1_values : Fld Z h0 a_1 own_N0 "values" "[Z" (.ref ob0)) (ho_ : own_lts [a_1, ob0, ob1, ob2]) (gw_ob0 : n0 ≤ ob0) (gw_ob1 : n0 ≤ ob1) (gw_ob2 : n0 ≤ ob2) (gw_a_1 : n0 ≤ a_1) :
    MetFree l (⟨own_N0, "assign", "(II)V"⟩ : MethodName) (head1 (Jvm.Cond.code (⟨own_N0, "assign", "(II)V"⟩ : MethodName) prog_7_method_2_code 3 none :: ws) ({ frames := 0, cells := 0, slots := 0, locals := 0 } : Room)) (fun a U => a = #[(.ref a_1), (.int 1), (.int 0)] ∧ Z.Warmed39 U.vm ∧ U.heap = h0) (fun _ _ _ _ _ => True) (fun _ U o U' => ∃ v L, o = .returned v ∧ own_Q20_s5 Z a_1 ob2 ob1 ob0 h0 n0 v U'.heap L ∧ FrameEnd U o U' L ({ frames := 0, cells := 0, slots := 0, locals := 0 } : Room).cells ({ frames := 0, cells := 0, slots := 0, locals := 0 } : Room).slots) := by
  refine MetFree.of_bodySF (plainFor_of_name own_pn3) hisR ?_
  intro p e s m args below meth c s₁ Bd hml0 hP hK
  obtain ⟨rfl, hZ, hh⟩ := hP
  have hx := Bd.exec
  have hby := Bd.bytes
  have hml : c.maxLocals = 3 := hml0
  have hown : s.vm.findClass own_N0 = some m.cls := findClass_of_methodNamed Bd.named
  have hnm := (name_of_methodNamed Bd.named Bd.method).1
  have X0 : Stand p l e ({ frames := 0, cells := 0, slots := 0, locals := 0 } : Room) s m #[(.ref a_1), (.int 1), (.int 0)] below meth c s₁ [] 0 0 := Stand.of_body Bd
  have e0 : s₁.heap = h0 := by rw [← hh, Bd.state]; rfl
  have N0 := Fr.nil n0
  have z0 : n0 ≤ h0.size := Z0
  have z1 := own_lt pr_A_ob0.lt
  have z2 := own_lt pr_A_ob1.lt
  have z3 := own_lt pr_A_ob2.lt
  have z4 := own_lt pr_E_a_1.lt
  have z5 := own_lt pr_F_a_1_order.lt
  have z6 := own_lt pr_F_a_1_reasons.lt
  have z7 := own_lt pr_F_a_1_size.lt
  have z8 := own_lt pr_F_a_1_values.lt
  have ho9 := ho_
  simp only [own_lts, and_true] at ho9
  have K0 : Keep h0 h0 [ob0, ob1, ob2, a_1] := Keep.refl h0 _
  show own_Go p.tables e below (fun t o => t.status = .running ∧ Ended t below o ∧ ∃ v L, o = .returned v ∧ own_Q20_s5 Z a_1 ob2 ob1 ob0 h0 n0 v t.heap L ∧ FrameEnd s o t L ({ frames := 0, cells := 0, slots := 0, locals := 0 } : Room).cells ({ frames := 0, cells := 0, slots := 0, locals := 0 } : Room).slots) s₁ (entryFrame m #[(.ref a_1), (.int 1), (.int 0)] 3)
  rw [own_ef_own_rm20_s5 m a_1]
  show own_Go _ _ _ _ s₁ (mkF m 0 #[.val (.ref a_1), .val (.int 1), .val (.int 0)] [])
  refine own_go (fun _ k => XS.aloadN X0.here hx rfl (hb hby own_d20_0) rfl rfl k) ?_
  obtain ⟨T10, X10, e10, st10⟩ := getF X0 hx hZ hown (host := "") (Or.inl (own_w118 hw)) Via.refl e0 pr_F_a_1_values (g := (mkF m 1 #[.val (.ref a_1), .val (.int 1), .val (.int 0)] [(.ref a_1)])) rfl rfl (hb hby own_d20_1)
  refine own_go (fun _ k => st10 _ k) ?_
  show own_Go _ _ _ _ T10 (mkF m 4 #[.val (.ref a_1), .val (.int 1), .val (.int 0)] [(.ref ob0)])
  refine own_go (fun _ k => XS.iloadN X10.here hx rfl (hb hby own_d20_4) rfl k) ?_
  obtain ⟨q11, c11, R11, s11, t11⟩ := id pr_A_ob0
  have hin11 : ¬ ((1 : Int32) < 0 ∨ c11.slots.size ≤ ((1 : Int32)).toNatClampNeg) := inb_of s11 ⟨by decide, by decide⟩
  have u11 : c11.slots[((1 : Int32)).toNatClampNeg]? = some (.int 0) := own_at (k := 1) t11 s11 hin11 (by decide) (rfl)
  refine own_go (fun _ k => X10.baloadBooleans hx (j := (1 : Int32)) (v := (.int 0)) (by rw [e10]; exact R11.1) (State.isArrayOf_alike hZ.alike R11.2.1) R11.2.2 hin11 u11 (g := (mkF m 5 #[.val (.ref a_1), .val (.int 1), .val (.int 0)] [(.int 1), (.ref ob0)])) rfl rfl (hb hby own_d20_5) _ k) ?_
  show own_Go _ _ _ _ T10 (mkF m 6 #[.val (.ref a_1), .val (.int 1), .val (.int 0)] [(.int 0)])
  have hc12 : (0 : Int32) = 0 := by decide
  refine own_go (fun _ k => XS.ifNo X10.here hx rfl (hb hby own_d20_6) rfl (Jvm.Free.XT.i0_ne_f hc12) (XS.aloadN X10.here hx rfl (hb hby own_d20_9) rfl rfl k)) ?_
  obtain ⟨T13, X13, e13, st13⟩ := getF X10 hx hZ hown (host := "") (Or.inl (own_w118 hw)) Via.refl e10 pr_F_a_1_values (g := (mkF m 10 #[.val (.ref a_1), .val (.int 1), .val (.int 0)] [(.ref a_1)])) rfl rfl (hb hby own_d20_10)
  refine own_go (fun _ k => st13 _ k) ?_
  show own_Go _ _ _ _ T13 (mkF m 13 #[.val (.ref a_1), .val (.int 1), .val (.int 0)] [(.ref ob0)])
  refine own_go (fun _ k => XS.iloadN X13.here hx rfl (hb hby own_d20_13) rfl (XS.iconst X13.here hx rfl (hb hby own_d20_14) k)) ?_
  obtain ⟨q14, c14, R14, s14, t14⟩ := id pr_A_ob0
  have hin14 : ¬ ((1 : Int32) < 0 ∨ c14.slots.size ≤ ((1 : Int32)).toNatClampNeg) := inb_of s14 ⟨by decide, by decide⟩
  obtain ⟨T15, h15, X15, e15, W15, st15⟩ := stZ X13 hx hZ e13 R14 (j := (1 : Int32)) hin14 (g := (mkF m 15 #[.val (.ref a_1), .val (.int 1), .val (.int 0)] [(.int 1), (.int 1), (.ref ob0)])) rfl rfl (hb hby own_d20_15)
  rw [(show nar .boolean (1 : Int32) = (1 : Int32) from rfl)] at W15
  have V15 : own_AV Z h15 ob0 .boolean (2 : Int32) (own_upd (own_upd (fun _ => (.int 0)) 0 (.int 1)) 1 (.int 1)) := own_AV.set (k := 1) pr_A_ob0 W15 (by decide)
  have z16 := W15.size
  have K15 : Keep h0 h15 [ob0, ob1, ob2, a_1] := K0.wr W15 (Or.inl (List.mem_of_getElem? (i := 0) rfl))
  have N15 := Fr.snoc X15 N0 (by omega : n0 ≤ ob0)
  refine own_go (fun _ k => st15 _ k) ?_
  show own_Go _ _ _ _ T15 (mkF m 16 #[.val (.ref a_1), .val (.int 1), .val (.int 0)] [])
  refine own_go (fun _ k => XS.aloadN X15.here hx rfl (hb hby own_d20_16) rfl rfl k) ?_
  have f17 := (pr_F_a_1_reasons.other W15 (Or.inl (own_ne (by omega))))
  obtain ⟨T18, X18, e18, st18⟩ := getF X15 hx hZ hown (host := "") (Or.inl (hw _ (List.mem_of_getElem? (i := 120) rfl))) Via.refl e15 f17 (g := (mkF m 17 #[.val (.ref a_1), .val (.int 1), .val (.int 0)] [(.ref a_1)])) rfl rfl (hb hby own_d20_17)
  refine own_go (fun _ k => st18 _ k) ?_
  show own_Go _ _ _ _ T18 (mkF m 20 #[.val (.ref a_1), .val (.int 1), .val (.int 0)] [(.ref ob1)])
  refine own_go (fun _ k => XS.iloadN X18.here hx rfl (hb hby own_d20_20) rfl (XS.iloadN X18.here hx rfl (hb hby own_d20_21) rfl k)) ?_
  have f19 := (pr_A_ob1.other W15 (own_ne (by omega)))
  obtain ⟨q20, c20, R20, s20, t20⟩ := id f19
  have hin20 : ¬ ((1 : Int32) < 0 ∨ c20.slots.size ≤ ((1 : Int32)).toNatClampNeg) := inb_of s20 ⟨by decide, by decide⟩
  obtain ⟨T21, h21, X21, e21, W21, st21⟩ := stI X18 hx hZ e18 R20 (j := (1 : Int32)) hin20 (g := (mkF m 22 #[.val (.ref a_1), .val (.int 1), .val (.int 0)] [(.int 0), (.int 1), (.ref ob1)])) rfl rfl (hb hby own_d20_22)
  have V21 : own_AV Z h21 ob1 .int 2 (own_upd (own_upd (fun _ => (.int 0)) 0 (.int (-1))) 1 (.int 0)) := own_AV.set (k := 1) f19 W21 (by decide)
  have z22 := W21.size
  have K21 : Keep h0 h21 [ob0, ob1, ob2, a_1] := K15.wr W21 (Or.inl (List.mem_of_getElem? (i := 1) rfl))
  have N21 := Fr.snoc X21 N15 (by omega : n0 ≤ ob1)
  refine own_go (fun _ k => st21 _ k) ?_
  show own_Go _ _ _ _ T21 (mkF m 23 #[.val (.ref a_1), .val (.int 1), .val (.int 0)] [])
  refine own_go (fun _ k => XS.aloadN X21.here hx rfl (hb hby own_d20_23) rfl rfl k) ?_
  have f23 := ((pr_F_a_1_order.other W15 (Or.inl (own_ne (by omega)))).other W21 (Or.inl (own_ne (by omega))))
  obtain ⟨T24, X24, e24, st24⟩ := getF X21 hx hZ hown (host := "") (Or.inl (own_w122 hw)) Via.refl e21 f23 (g := (mkF m 24 #[.val (.ref a_1), .val (.int 1), .val (.int 0)] [(.ref a_1)])) rfl rfl (hb hby own_d20_24)
  refine own_go (fun _ k => st24 _ k) ?_
  show own_Go _ _ _ _ T24 (mkF m 27 #[.val (.ref a_1), .val (.int 1), .val (.int 0)] [(.ref ob2)])
  refine own_go (fun _ k => XS.aloadN X24.here hx rfl (hb hby own_d20_27) rfl rfl k) ?_
  have f25 := ((pr_F_a_1_size.other W15 (Or.inl (own_ne (by omega)))).other W21 (Or.inl (own_ne (by omega))))
  obtain ⟨T26, X26, e26, st26⟩ := getF X24 hx hZ hown (host := "") (Or.inl (own_w129 hw)) Via.refl e24 f25 (g := (mkF m 28 #[.val (.ref a_1), .val (.int 1), .val (.int 0)] [(.ref a_1), (.ref ob2)])) rfl rfl (hb hby own_d20_28)
  refine own_go (fun _ k => st26 _ k) ?_
  show own_Go _ _ _ _ T26 (mkF m 31 #[.val (.ref a_1), .val (.int 1), .val (.int 0)] [(.int 1), (.ref ob2)])
  refine own_go (fun _ k => XS.iloadN X26.here hx rfl (hb hby own_d20_31) rfl k) ?_
  have f27 := ((pr_A_ob2.other W15 (own_ne (by omega))).other W21 (own_ne (by omega)))
  obtain ⟨q28, c28, R28, s28, t28⟩ := id f27
  have hin28 : ¬ ((1 : Int32) < 0 ∨ c28.slots.size ≤ ((1 : Int32)).toNatClampNeg) := inb_of s28 ⟨by decide, by decide⟩
  obtain ⟨T29, h29, X29, e29, W29, st29⟩ := stI X26 hx hZ e26 R28 (j := (1 : Int32)) hin28 (g := (mkF m 32 #[.val (.ref a_1), .val (.int 1), .val (.int 0)] [(.int 1), (.int 1), (.ref ob2)])) rfl rfl (hb hby own_d20_32)
  have V29 : own_AV Z h29 ob2 .int 2 (own_upd (own_upd (fun _ => (.int 0)) 0 (.int 0)) 1 (.int 1)) := own_AV.set (k := 1) f27 W29 (by decide)
  have z30 := W29.size
  have K29 : Keep h0 h29 [ob0, ob1, ob2, a_1] := K21.wr W29 (Or.inl (List.mem_of_getElem? (i := 2) rfl))
  have N29 := Fr.snoc X29 N21 (by omega : n0 ≤ ob2)
  refine own_go (fun _ k => st29 _ k) ?_
  show own_Go _ _ _ _ T29 (mkF m 33 #[.val (.ref a_1), .val (.int 1), .val (.int 0)] [])
  refine own_go (fun _ k => XS.aloadN X29.here hx rfl (hb hby own_d20_33) rfl rfl (XS.dup X29.here hx rfl (hb hby own_d20_34) rfl rfl k)) ?_
  have f31 := (f25.other W29 (Or.inl (own_ne (by omega))))
  obtain ⟨T32, X32, e32, st32⟩ := getF X29 hx hZ hown (host := "") (Or.inl (own_w129 hw)) Via.refl e29 f31 (g := (mkF m 35 #[.val (.ref a_1), .val (.int 1), .val (.int 0)] [(.ref a_1), (.ref a_1)])) rfl rfl (hb hby own_d20_35)
  refine own_go (fun _ k => st32 _ k) ?_
  show own_Go _ _ _ _ T32 (mkF m 38 #[.val (.ref a_1), .val (.int 1), .val (.int 0)] [(.int 1), (.ref a_1)])
  refine own_go (fun _ k => XS.iconst X32.here hx rfl (hb hby own_d20_38) (XS.iadd X32.here hx rfl (hb hby own_d20_39) rfl k)) ?_
  have f33 := (((pr_E_a_1.wr W15).wr W21).wr W29)
  obtain ⟨T34, h34, X34, e34, W34, st34⟩ := putF X32 hx hZ hown (host := "") (Or.inl (own_w129 hw)) Via.refl e32 f31 f33 (Or.inl (own_w130 hw)) (own_w111 hw) (ty := .int) (by decide) rfl rfl (g := (mkF m 40 #[.val (.ref a_1), .val (.int 1), .val (.int 0)] [(.int 2), (.ref a_1)])) rfl rfl (hb hby own_d20_40)
  have z35 := W34.size
  have K34 : Keep h0 h34 [ob0, ob1, ob2, a_1] := K29.wr W34 (Or.inl (List.mem_of_getElem? (i := 3) rfl))
  have N34 := Fr.snoc X34 N29 (by omega : n0 ≤ a_1)
  have Fw34 : Fld Z h34 a_1 own_N0 "size" "I" (.int 2) := Fld.same W34 f31
  refine own_go (fun _ k => st34 _ k) ?_
  show own_Go _ _ _ _ T34 (mkF m 43 #[.val (.ref a_1), .val (.int 1), .val (.int 0)] [])
  obtain ⟨fs, hr, hrun, hended, hW, hsame⟩ := X34.leave (v := none) (fun _ => rfl)
  refine ⟨_, _, X34.returnOut hx Bd.returns (hb hby own_d20_43) hr, hrun, hended, _, _, rfl, ?_, ⟨_, rfl⟩, hW, hsame.mono (by decide) (by decide)⟩
  show own_Q20_s5 Z a_1 ob2 ob1 ob0 h0 n0 _ T34.heap _
  rw [e34]
  have f37 := (((V15.other W21 (own_ne (by omega))).other W29 (own_ne (by omega))).other W34 (own_ne (by omega)))
  have f38 := ((V21.other W29 (own_ne (by omega))).other W34 (own_ne (by omega)))
  have f39 := (V29.other W34 (own_ne (by omega)))
  have f40 := (f33.wr W34)
  have f41 := ((f23.other W29 (Or.inl (own_ne (by omega)))).other W34 (Or.inr (slot_ne (Or.inr (own_w123 hw)) (Or.inl (own_w130 hw)) (by decide) (t := (.array .int)) (t' := .int) (by decide) (by decide))))
  have f42 := (((f17.other W21 (Or.inl (own_ne (by omega)))).other W29 (Or.inl (own_ne (by omega)))).other W34 (Or.inr (slot_ne (Or.inr (own_w121 hw)) (Or.inl (own_w130 hw)) (by decide) (t := (.array .int)) (t' := .int) (by decide) (by decide))))
  have f43 := ((((pr_F_a_1_values.other W15 (Or.inl (own_ne (by omega)))).other W21 (Or.inl (own_ne (by omega)))).other W29 (Or.inl (own_ne (by omega)))).other W34 (Or.inr (slot_ne (Or.inr (own_w119 hw)) (Or.inl (own_w130 hw)) (by decide) (t := (.array .boolean)) (t' := .int) (by decide) (by decide))))
  exact ⟨rfl, N34, K34, f37, f38, f39, f40, f41, f42, Fw34, f43⟩
theorem own_ef_own_rm21_s5 (m : MethodId) (x0 : Addr) : entryFrame m #[(.ref x0), (.int 1)] 2 = mkF m 0 #[.val (.ref x0), .val (.int 1)] [] := by first | (simp [entryFrame, mkF, argsToLocals, Value.category]; done) | rfl
def own_Q21_s5 (Z : State) (a_1 : Addr) (ob0 : Addr) (h0 : Heap) (n0 : Nat) (v : Option Value) (h : Heap) (L : List Loc) : Prop := v = some (.int 1) ∧ Fr n0 L ∧ h = h0
set_option maxRecDepth 65536 in
set_option maxHeartbeats 40000000 in
theorem own_rm21_s5 (l : Launch) (Z : State) (a0 : Array Value) (hw : ∀ d ∈ tables_1, d.before a0 Z = true) (ws : List Jvm.Cond) (a_1 : Addr) (ob0 : Addr) (h0 : Heap) (n0 : Nat) (Z0 : n0 ≤ h0.size) (pr_A_ob0 : own_AV Z h0 ob0 .boolean (2 : Int32) (own_upd (own_upd (fun _ => (.int 0)) 0 (.int 1)) 1 (.int 1))) (pr_F_a_1_values : Fld Z h0 a_1 own_N0 "values" "[Z" (.ref ob0)) (ho_ : own_lts [a_1, ob0]) :
    MetFree l (⟨own_N0, "isTrue", "(I)Z"⟩ : MethodName) (head1 (Jvm.Cond.code (⟨own_N0, "isTrue", "(I)Z"⟩ : MethodName) prog_7_method_3_code 2 (some .boolean) :: ws) ({ frames := 0, cells := 0, slots := 0, locals := 0 } : Room)) (fun a U => a = #[(.ref a_1), (.int 1)] ∧ Z.Warmed39 U.vm ∧ U.heap = h0) (fun _ _ _ _ _ => True) (fun _ U o U' => ∃ v L, o = .returned v ∧ own_Q21_s5 Z a_1 ob0 h0 n0 v U'.heap L ∧ FrameEnd U o U' L ({ frames := 0, cells := 0, slots := 0, locals := 0 } : Room).cells ({ frames := 0, cells := 0, slots := 0, locals := 0 } : Room).slots) := by
  refine MetFree.of_bodySF (plainFor_of_name own_pn3) hisR ?_
  intro p e s m args below meth c s₁ Bd hml0 hP hK
  obtain ⟨rfl, hZ, hh⟩ := hP
  have hx := Bd.exec
  have hby := Bd.bytes
  have hml : c.maxLocals = 2 := hml0
  have hown : s.vm.findClass own_N0 = some m.cls := findClass_of_methodNamed Bd.named
  have hnm := (name_of_methodNamed Bd.named Bd.method).1
  have X0 : Stand p l e ({ frames := 0, cells := 0, slots := 0, locals := 0 } : Room) s m #[(.ref a_1), (.int 1)] below meth c s₁ [] 0 0 := Stand.of_body Bd
  have e0 : s₁.heap = h0 := by rw [← hh, Bd.state]; rfl
  have N0 := Fr.nil n0
  have z0 : n0 ≤ h0.size := Z0
  have z1 := own_lt pr_A_ob0.lt
  have z2 := own_lt pr_F_a_1_values.lt
  have ho3 := ho_
  simp only [own_lts, and_true] at ho3
  show own_Go p.tables e below (fun t o => t.status = .running ∧ Ended t below o ∧ ∃ v L, o = .returned v ∧ own_Q21_s5 Z a_1 ob0 h0 n0 v t.heap L ∧ FrameEnd s o t L ({ frames := 0, cells := 0, slots := 0, locals := 0 } : Room).cells ({ frames := 0, cells := 0, slots := 0, locals := 0 } : Room).slots) s₁ (entryFrame m #[(.ref a_1), (.int 1)] 2)
  rw [own_ef_own_rm21_s5 m a_1]
  show own_Go _ _ _ _ s₁ (mkF m 0 #[.val (.ref a_1), .val (.int 1)] [])
  refine own_go (fun _ k => XS.aloadN X0.here hx rfl (hb hby own_d21_0) rfl rfl k) ?_
  obtain ⟨T4, X4, e4, st4⟩ := getF X0 hx hZ hown (host := "") (Or.inl (own_w118 hw)) Via.refl e0 pr_F_a_1_values (g := (mkF m 1 #[.val (.ref a_1), .val (.int 1)] [(.ref a_1)])) rfl rfl (hb hby own_d21_1)
  refine own_go (fun _ k => st4 _ k) ?_
  show own_Go _ _ _ _ T4 (mkF m 4 #[.val (.ref a_1), .val (.int 1)] [(.ref ob0)])
  refine own_go (fun _ k => XS.iloadN X4.here hx rfl (hb hby own_d21_4) rfl k) ?_
  obtain ⟨q5, c5, R5, s5, t5⟩ := id pr_A_ob0
  have hin5 : ¬ ((1 : Int32) < 0 ∨ c5.slots.size ≤ ((1 : Int32)).toNatClampNeg) := inb_of s5 ⟨by decide, by decide⟩
  have u5 : c5.slots[((1 : Int32)).toNatClampNeg]? = some (.int 1) := own_at (k := 1) t5 s5 hin5 (by decide) (rfl)
  refine own_go (fun _ k => X4.baloadBooleans hx (j := (1 : Int32)) (v := (.int 1)) (by rw [e4]; exact R5.1) (State.isArrayOf_alike hZ.alike R5.2.1) R5.2.2 hin5 u5 (g := (mkF m 5 #[.val (.ref a_1), .val (.int 1)] [(.int 1), (.ref ob0)])) rfl rfl (hb hby own_d21_5) _ k) ?_
  show own_Go _ _ _ _ T4 (mkF m 6 #[.val (.ref a_1), .val (.int 1)] [(.int 1)])
  obtain ⟨fs, hr, hrun, hended, hW, hsame⟩ := X4.leave (v := some (.int 1)) (fun h => by rw [Bd.returns] at h; cases h)
  refine ⟨_, _, retOut X4 hx Bd.returns rfl (Or.inl ⟨rfl, Or.inr (Or.inl rfl), _, rfl⟩) (hb hby own_d21_6) hr, hrun, hended, _, _, rfl, ?_, ⟨_, rfl⟩, hW, hsame.mono (by decide) (by decide)⟩
  show own_Q21_s5 Z a_1 ob0 h0 n0 _ T4.heap _
  rw [e4]
  exact ⟨rfl, N0, rfl⟩
theorem own_ef_own_rm9_s3 (m : MethodId) (x0 : Addr) (x1 : Addr) : entryFrame m #[(.ref x0), (.ref x1), (.int 1)] 9 = mkF m 0 #[.val (.ref x0), .val (.ref x1), .val (.int 1), .unset, .unset, .unset, .unset, .unset, .unset] [] := by first | (simp [entryFrame, mkF, argsToLocals, Value.category]; done) | rfl
def own_Q9_s3 (Z : State) (a_1 : Addr) (a_2 : Addr) (g_lam : Addr) (ob2 : Addr) (ob1 : Addr) (ob0 : Addr) (u_0 : Value) (u_1 : Value) (u_2 : Value) (h0 : Heap) (n0 : Nat) (v : Option Value) (h : Heap) (L : List Loc) : Prop := ∃ (x_0 : Addr) (x_1 : Addr) (x_2 : Addr) (x_3 : Addr) (x_4 : Addr) (x_5 : Addr) (x_6 : Addr) (x_7 : Addr), v = some (.ref x_0) ∧ Fr n0 L ∧ Keep h0 h [a_1] ∧ Exa Z h a_1 own_N1 ∧ Fld Z h a_1 own_N1 "bodies" "[I" (.ref ob2) ∧ Fld Z h a_1 own_N1 "bodyStarts" "[I" (.ref ob1) ∧ Fld Z h a_1 own_N1 "clauseCount" "I" (.int 1) ∧ Fld Z h a_1 own_N1 "derivationStarts" "[I" (.ref x_1) ∧ Fld Z h a_1 own_N1 "derivations" "[I" (.ref x_2) ∧ Fld Z h a_1 own_N1 "heads" "[I" (.ref ob0) ∧ Fld Z h a_1 own_N1 "occurrenceStarts" "[I" (.ref x_3) ∧ Fld Z h a_1 own_N1 "occurrences" "[I" (.ref x_4) ∧ Fld Z h a_1 own_N1 "variableCount" "I" (.int 2) ∧ Exa Z h x_0 own_N0 ∧ Fld Z h x_0 own_N0 "order" "[I" (.ref x_5) ∧ Fld Z h x_0 own_N0 "reasons" "[I" (.ref x_6) ∧ Fld Z h x_0 own_N0 "size" "I" (.int 2) ∧ Fld Z h x_0 own_N0 "values" "[Z" (.ref x_7) ∧ own_AV Z h x_1 .int 3 (own_upd (own_upd (own_upd (fun _ => (.int 0)) 2 (.int 1)) 1 (.int 0)) 2 (.int 1)) ∧ own_AV Z h x_2 .int 1 (own_upd (fun _ => (.int 0)) 0 (.int 0)) ∧ own_AV Z h x_3 .int 3 (own_upd (own_upd (own_upd (fun _ => (.int 0)) 1 (.int 1)) 1 (.int 1)) 2 (.int 1)) ∧ own_AV Z h x_4 .int 1 (own_upd (fun _ => (.int 0)) 0 (.int 0)) ∧ own_AV Z h x_5 .int 2 (own_upd (own_upd (fun _ => (.int 0)) 0 (.int 0)) 1 (.int 1)) ∧ own_AV Z h x_6 .int 2 (own_upd (own_upd (fun _ => (.int 0)) 0 (.int (-1))) 1 (.int 0)) ∧ own_AV Z h x_7 .boolean (2 : Int32) (own_upd (own_upd (fun _ => (.int 0)) 0 (.int 1)) 1 (.int 1)) ∧ (h0.size ≤ x_0) ∧ (h0.size ≤ x_1) ∧ (h0.size ≤ x_2) ∧ (h0.size ≤ x_3) ∧ (h0.size ≤ x_4) ∧ (h0.size ≤ x_5) ∧ (h0.size ≤ x_6) ∧ (h0.size ≤ x_7) ∧ (own_lts [x_3, x_4, x_1, x_2, x_0, x_7, x_6, x_5])
set_option maxRecDepth 65536 in
set_option maxHeartbeats 40000000 in
theorem own_rm9_s3 (l : Launch) (Z : State) (a0 : Array Value) (hw : ∀ d ∈ tables_1, d.before a0 Z = true) (ws : List Jvm.Cond) (a_1 : Addr) (a_2 : Addr) (g_lam : Addr) (ob2 : Addr) (ob1 : Addr) (ob0 : Addr) (u_0 : Value) (u_1 : Value) (u_2 : Value) (h0 : Heap) (n0 : Nat) (Z0 : n0 ≤ h0.size) (pr_A_a_2 : own_AV Z h0 a_2 .int 1 (own_upd (fun _ => (.int 0)) 0 (.int 0))) (pr_A_ob0 : own_AV Z h0 ob0 .int 64 (own_upd (fun _ => (.int 0)) 0 (.int 1))) (pr_A_ob1 : own_AV Z h0 ob1 .int 65 (own_upd (fun _ => (.int 0)) 1 (.int 1))) (pr_A_ob2 : own_AV Z h0 ob2 .int 64 (own_upd (fun _ => (.int 0)) 0 (.int 0))) (pr_E_a_1 : Exa Z h0 a_1 own_N1) (pr_F_a_1_bodies : Fld Z h0 a_1 own_N1 "bodies" "[I" (.ref ob2)) (pr_F_a_1_bodyStarts : Fld Z h0 a_1 own_N1 "bodyStarts" "[I" (.ref ob1)) (pr_F_a_1_clauseCount : Fld Z h0 a_1 own_N1 "clauseCount" "I" (.int 1)) (pr_F_a_1_derivationStarts : Fld Z h0 a_1 own_N1 "derivationStarts" "[I" u_0) (pr_F_a_1_derivations : Fld Z h0 a_1 own_N1 "derivations" "[I" u_1) (pr_F_a_1_heads : Fld Z h0 a_1 own_N1 "heads" "[I" (.ref ob0)) (pr_F_a_1_occurrenceStarts : Fld Z h0 a_1 own_N1 "occurrenceStarts" "[I" u_2) (pr_F_a_1_occurrences : Fld Z h0 a_1 own_N1 "occurrences" "[I" .null) (pr_F_a_1_variableCount : Fld Z h0 a_1 own_N1 "variableCount" "I" (.int 2)) (pr_M_g_lam : own_LM Z h0 g_lam) (ho_ : own_lts [a_1, ob0, ob1, ob2, a_2]) (ho_g : own_lts [g_lam, n0]) (gw_a_1 : n0 ≤ a_1) :
    MetFree l (⟨own_N1, "propagate", "([II)Lcom/example/kalchas/kalchas/propositional/HornClauses$Trail;"⟩ : MethodName) (head1 (Jvm.Cond.code (⟨own_N1, "propagate", "([II)Lcom/example/kalchas/kalchas/propositional/HornClauses$Trail;"⟩ : MethodName) prog_6_method_13_code 9 (some (.object own_N0)) :: ws) ({ frames := 4, cells := 17, slots := 97, locals := 3117 } : Room)) (fun a U => a = #[(.ref a_1), (.ref a_2), (.int 1)] ∧ Z.Warmed39 U.vm ∧ U.heap = h0) (fun _ _ _ _ _ => True) (fun _ U o U' => ∃ v L, o = .returned v ∧ own_Q9_s3 Z a_1 a_2 g_lam ob2 ob1 ob0 u_0 u_1 u_2 h0 n0 v U'.heap L ∧ ReturnedEndW U o U' L ({ frames := 4, cells := 17, slots := 97, locals := 3117 } : Room).cells ({ frames := 4, cells := 17, slots := 97, locals := 3117 } : Room).slots) := by
  refine MetFree.of_bodySF (plainFor_of_name own_pn0) hisR ?_
  intro p e s m args below meth c s₁ Bd hml0 hP hK
  obtain ⟨rfl, hZ, hh⟩ := hP
  have hx := Bd.exec
  have hby := Bd.bytes
  have hml : c.maxLocals = 9 := hml0
  have hown : s.vm.findClass own_N1 = some m.cls := findClass_of_methodNamed Bd.named
  have hnm := (name_of_methodNamed Bd.named Bd.method).1
  have X0 : Stand p l e ({ frames := 4, cells := 17, slots := 97, locals := 3117 } : Room) s m #[(.ref a_1), (.ref a_2), (.int 1)] below meth c s₁ [] 0 0 := Stand.of_body Bd
  have e0 : s₁.heap = h0 := by rw [← hh, Bd.state]; rfl
  have N0 := Fr.nil n0
  have X0 : Stand p l e ({ frames := 4, cells := 17, slots := 97, locals := 3117 } : Room) (s.setVm s.vm) m #[(.ref a_1), (.ref a_2), (.int 1)] below meth c s₁ [] 0 0 := X0
  have hZ : Z.Warmed39 (s.setVm s.vm).vm := hZ
  have hown : (s.setVm s.vm).vm.findClass own_N1 = some m.cls := hown
  have hS0 : s.Since s.vm 0 := (State.WarmedH.refl s).since 0
  have z0 : n0 ≤ h0.size := Z0
  have z1 := own_lt pr_A_a_2.lt
  have z2 := own_lt pr_A_ob0.lt
  have z3 := own_lt pr_A_ob1.lt
  have z4 := own_lt pr_A_ob2.lt
  have z5 := own_lt pr_E_a_1.lt
  have z6 := own_lt pr_F_a_1_bodies.lt
  have z7 := own_lt pr_F_a_1_bodyStarts.lt
  have z8 := own_lt pr_F_a_1_clauseCount.lt
  have z9 := own_lt pr_F_a_1_derivationStarts.lt
  have z10 := own_lt pr_F_a_1_derivations.lt
  have z11 := own_lt pr_F_a_1_heads.lt
  have z12 := own_lt pr_F_a_1_occurrenceStarts.lt
  have z13 := own_lt pr_F_a_1_occurrences.lt
  have z14 := own_lt pr_F_a_1_variableCount.lt
  have ho15 := ho_
  simp only [own_lts, and_true] at ho15
  have ho16 := ho_g
  simp only [own_lts, and_true] at ho16
  have K0 : Keep h0 h0 [a_1] := Keep.refl h0 _
  show own_Go p.tables e below (fun t o => t.status = .running ∧ Ended t below o ∧ ∃ v L, o = .returned v ∧ own_Q9_s3 Z a_1 a_2 g_lam ob2 ob1 ob0 u_0 u_1 u_2 h0 n0 v t.heap L ∧ ReturnedEndW s o t L ({ frames := 4, cells := 17, slots := 97, locals := 3117 } : Room).cells ({ frames := 4, cells := 17, slots := 97, locals := 3117 } : Room).slots) s₁ (entryFrame m #[(.ref a_1), (.ref a_2), (.int 1)] 9)
  rw [own_ef_own_rm9_s3 m a_1 a_2]
  show own_Go _ _ _ _ s₁ (mkF m 0 #[.val (.ref a_1), .val (.ref a_2), .val (.int 1), .unset, .unset, .unset, .unset, .unset, .unset] [])
  refine own_go (fun _ k => XS.aloadN X0.here hx rfl (hb hby own_d9_0) rfl rfl (XS.iloadN X0.here hx rfl (hb hby own_d9_1) rfl k)) ?_
  obtain ⟨cq17, kq17, q17a, q17b, q17c⟩ := isOf hZ e0 pr_E_a_1
  obtain ⟨_, _, ⟨T17, L17, k17, n17⟩, -, X17, hS17, gr17, ⟨Lc17, hQ17, l17, y17, z17⟩, st17⟩ := X0.virtualBackS hx (y := (⟨own_N1, "checkVariable", "(I)V"⟩ : MethodName)) (z := (⟨own_N1, "checkVariable", "(I)V"⟩ : MethodName)) hown (mvT hZ (hw _ (List.mem_of_getElem? (i := 30) rfl))) (mvT hZ (hw _ (List.mem_of_getElem? (i := 31) rfl))) (notFace_of_selects (args := #[]) (mvT hZ (own_w33 hw))) (mvT hZ (own_w33 hw)) (mvT hZ (hw _ (List.mem_of_getElem? (i := 32) rfl))) (by decide) (backOfS (W := 0) (own_rm5 l Z a0 hw [] a_1 (1 : Int32) (2 : Int32) h0 n0 (by omega) (show ¬ ((1 : Int32) < 0) by first | assumption | omega | decide) (show (1 : Int32) < (2 : Int32) by first | assumption | omega | decide) pr_F_a_1_variableCount) hZ (hw _ (List.mem_of_getElem? (i := 34) rfl)) (own_w2 hw) (by decide) (by decide)) q17a q17c (g := (mkF m 2 #[.val (.ref a_1), .val (.ref a_2), .val (.int 1), .unset, .unset, .unset, .unset, .unset, .unset] [(.int 1), (.ref a_1)])) rfl (by rw [hml]; rfl) (Steps.refl _) (argsL := [(.int 1)]) (rest := []) (lenOf own_pd3 rfl) rfl (by show 2 * 0 + _ ≤ _; exact Nat.le_of_eq rfl) (hb hby own_d9_2) (fun _ _ => ⟨rfl, e0, (by decide : 0 + 2 ≤ _), (by decide : 0 + 36 ≤ _)⟩)
  dsimp only [Pt.U, Pt.locs, Pt.cells, Pt.slots] at X17 l17 y17 z17 st17 hQ17 hS17 gr17
  have y17 : k17 = 2 := y17
  have z17 : n17 = 36 := z17
  have Wn17 := hS17.1
  obtain ⟨X17, hS17, hZ, hown⟩ := rebS hS0 (n1 := s₁.heap.size) (by rw [e0]; omega) X17 hS17 gr17 hZ hown
  obtain ⟨rfl, N17q, K17q⟩ := hQ17
  have N17 : Fr n0 L17 := by rw [l17]; exact Fr.app N0 N17q
  have z18 := K17q.1
  have K17 : Keep h0 T17.heap [a_1] := K0.trans K17q all0
  refine own_go (fun _ k => st17.trans k) ?_
  show own_Go _ _ _ _ T17 (mkF m 5 #[.val (.ref a_1), .val (.ref a_2), .val (.int 1), .unset, .unset, .unset, .unset, .unset, .unset] [])
  refine own_go (fun _ k => XS.aloadN X17.here hx rfl (hb hby own_d9_5) rfl rfl (XS.astoreN X17.here hx rfl (hb hby own_d9_6) rfl rfl (l' := #[.val (.ref a_1), .val (.ref a_2), .val (.int 1), .val (.ref a_2), .unset, .unset, .unset, .unset, .unset]) rfl (XS.aloadN X17.here hx rfl (hb hby own_d9_7) rfl rfl k))) ?_
  have f19 := (pr_A_a_2.keep K17q nin0)
  obtain ⟨q20, c20, R20, s20, t20⟩ := id f19
  refine own_go (fun _ k => X17.arraylength hx R20.1 (State.isArrayOf_alike hZ.alike R20.2.1) (g := (mkF m 8 #[.val (.ref a_1), .val (.ref a_2), .val (.int 1), .val (.ref a_2), .unset, .unset, .unset, .unset, .unset] [(.ref a_2)])) rfl rfl (hb hby own_d9_8) _ k) ?_
  rw [len_of s20 q20]
  show own_Go _ _ _ _ T17 (mkF m 9 #[.val (.ref a_1), .val (.ref a_2), .val (.int 1), .val (.ref a_2), .unset, .unset, .unset, .unset, .unset] [(.int 1)])
  refine own_go (fun _ k => XS.istore X17.here hx rfl (hb hby own_d9_9) rfl (l' := #[.val (.ref a_1), .val (.ref a_2), .val (.int 1), .val (.ref a_2), .val (.int 1), .unset, .unset, .unset, .unset]) rfl (XS.iconst X17.here hx rfl (hb hby own_d9_11) (XS.istore X17.here hx rfl (hb hby own_d9_12) rfl (l' := #[.val (.ref a_1), .val (.ref a_2), .val (.int 1), .val (.ref a_2), .val (.int 1), .val (.int 0), .unset, .unset, .unset]) rfl (XS.iload X17.here hx rfl (hb hby own_d9_14) rfl k)))) ?_
  show own_Go _ _ _ _ T17 (mkF m 16 #[.val (.ref a_1), .val (.ref a_2), .val (.int 1), .val (.ref a_2), .val (.int 1), .val (.int 0), .unset, .unset, .unset] [(.int 0)])
  refine own_go (fun _ k => XS.iload X17.here hx rfl (hb hby own_d9_16) rfl k) ?_
  have hc21 : (0 : Int32) < (1 : Int32) := by decide
  refine own_go (fun _ k => XS.icmpNo X17.here hx rfl (hb hby own_d9_18) rfl (Jvm.Free.XT.ii_ge_f hc21) (XS.aloadN X17.here hx rfl (hb hby own_d9_21) rfl rfl (XS.iload X17.here hx rfl (hb hby own_d9_22) rfl k))) ?_
  obtain ⟨q22, c22, R22, s22, t22⟩ := id f19
  have hin22 : ¬ ((0 : Int32) < 0 ∨ c22.slots.size ≤ ((0 : Int32)).toNatClampNeg) := inb_of s22 ⟨by decide, by decide⟩
  have u22 : c22.slots[((0 : Int32)).toNatClampNeg]? = some (.int 0) := own_at (k := 0) t22 s22 hin22 (by decide) (rfl)
  refine own_go (fun _ k => X17.iaload hx (j := (0 : Int32)) (v := (.int 0)) R22.1 (State.isArrayOf_alike hZ.alike R22.2.1) R22.2.2 hin22 u22 (g := (mkF m 24 #[.val (.ref a_1), .val (.ref a_2), .val (.int 1), .val (.ref a_2), .val (.int 1), .val (.int 0), .unset, .unset, .unset] [(.int 0), (.ref a_2)])) rfl rfl (hb hby own_d9_24) _ k) ?_
  show own_Go _ _ _ _ T17 (mkF m 25 #[.val (.ref a_1), .val (.ref a_2), .val (.int 1), .val (.ref a_2), .val (.int 1), .val (.int 0), .unset, .unset, .unset] [(.int 0)])
  refine own_go (fun _ k => XS.istore X17.here hx rfl (hb hby own_d9_25) rfl (l' := #[.val (.ref a_1), .val (.ref a_2), .val (.int 1), .val (.ref a_2), .val (.int 1), .val (.int 0), .val (.int 0), .unset, .unset]) rfl (XS.aloadN X17.here hx rfl (hb hby own_d9_27) rfl rfl (XS.iload X17.here hx rfl (hb hby own_d9_28) rfl k))) ?_
  have f23 := (pr_F_a_1_variableCount.keep K17q nin0)
  have f25 := (pr_E_a_1.keep K17q)
  obtain ⟨cq24, kq24, q24a, q24b, q24c⟩ := isOf hZ rfl f25
  obtain ⟨_, _, ⟨T24, L24, k24, n24⟩, -, X24, hS24, gr24, ⟨Lc24, hQ24, l24, y24, z24⟩, st24⟩ := X17.virtualBackS hx (y := (⟨own_N1, "checkVariable", "(I)V"⟩ : MethodName)) (z := (⟨own_N1, "checkVariable", "(I)V"⟩ : MethodName)) hown (mvT hZ (hw _ (List.mem_of_getElem? (i := 30) rfl))) (mvT hZ (hw _ (List.mem_of_getElem? (i := 31) rfl))) (notFace_of_selects (args := #[]) (mvT hZ (own_w33 hw))) (mvT hZ (own_w33 hw)) (mvT hZ (hw _ (List.mem_of_getElem? (i := 32) rfl))) (by decide) (backOfS (W := 0) (own_rm5 l Z a0 hw [] a_1 (0 : Int32) (2 : Int32) T17.heap n0 (by omega) (show ¬ ((0 : Int32) < 0) by first | assumption | omega | decide) (show (0 : Int32) < (2 : Int32) by first | assumption | omega | decide) f23) hZ (hw _ (List.mem_of_getElem? (i := 34) rfl)) (own_w2 hw) (by decide) (by decide)) q24a q24c (g := (mkF m 30 #[.val (.ref a_1), .val (.ref a_2), .val (.int 1), .val (.ref a_2), .val (.int 1), .val (.int 0), .val (.int 0), .unset, .unset] [(.int 0), (.ref a_1)])) rfl (by rw [hml]; rfl) (Steps.refl _) (argsL := [(.int 0)]) (rest := []) (lenOf own_pd3 rfl) rfl (by show 2 * 0 + _ ≤ _; exact Nat.le_of_eq rfl) (hb hby own_d9_30) (fun _ _ => ⟨rfl, rfl, (by show k17 + _ ≤ _; rw [y17]; decide), (by show n17 + _ ≤ _; rw [z17]; decide)⟩)
  dsimp only [Pt.U, Pt.locs, Pt.cells, Pt.slots] at X24 l24 y24 z24 st24 hQ24 hS24 gr24
  have y24 : k24 = 4 := own_addeq y24 (congrArg (fun q => q) y17) rfl
  have z24 : n24 = 72 := own_addeq z24 (congrArg (fun q => q) z17) rfl
  have Wn24 := hS24.1
  obtain ⟨X24, hS24, hZ, hown⟩ := rebS hS17 (n1 := T17.heap.size) (by omega) X24 hS24 gr24 hZ hown
  obtain ⟨rfl, N24q, K24q⟩ := hQ24
  have N24 : Fr n0 L24 := by rw [l24]; exact Fr.app N17 N24q
  have z26 := K24q.1
  have K24 : Keep h0 T24.heap [a_1] := K17.trans K24q all0
  refine own_go (fun _ k => st24.trans k) ?_
  show own_Go _ _ _ _ T24 (mkF m 33 #[.val (.ref a_1), .val (.ref a_2), .val (.int 1), .val (.ref a_2), .val (.int 1), .val (.int 0), .val (.int 0), .unset, .unset] [])
  refine own_go (fun _ k => XS.iinc X24.here hx rfl (hb hby own_d9_33) rfl (l' := #[.val (.ref a_1), .val (.ref a_2), .val (.int 1), .val (.ref a_2), .val (.int 1), .val (.int 1), .val (.int 0), .unset, .unset]) rfl (XS.goto X24.here hx rfl (pc0 := 36) (pc' := 14) rfl (hb hby own_d9_36) (by decide) (by decide) (XS.iload X24.here hx rfl (hb hby own_d9_14) rfl (XS.iload X24.here hx rfl (hb hby own_d9_16) rfl k)))) ?_
  show own_Go _ _ _ _ T24 (mkF m 18 #[.val (.ref a_1), .val (.ref a_2), .val (.int 1), .val (.ref a_2), .val (.int 1), .val (.int 1), .val (.int 0), .unset, .unset] [(.int 1), (.int 1)])
  have hc27 : ¬ ((1 : Int32) < (1 : Int32)) := by decide
  refine own_go (fun _ k => XS.icmpYes X24.here hx rfl (pc0 := 18) (pc' := 39) rfl (hb hby own_d9_18) rfl (Jvm.Free.XT.ii_ge_t hc27) (by decide) (by decide) (XS.aloadN X24.here hx rfl (hb hby own_d9_39) rfl rfl k)) ?_
  have f28 := ((pr_A_ob0.keep K17q nin0).keep K24q nin0)
  have f29 := ((pr_A_ob1.keep K17q nin0).keep K24q nin0)
  have f30 := ((pr_A_ob2.keep K17q nin0).keep K24q nin0)
  have f31 := (f25.keep K24q)
  have f32 := ((pr_F_a_1_bodies.keep K17q nin0).keep K24q nin0)
  have f33 := ((pr_F_a_1_bodyStarts.keep K17q nin0).keep K24q nin0)
  have f34 := ((pr_F_a_1_clauseCount.keep K17q nin0).keep K24q nin0)
  have f35 := ((pr_F_a_1_derivationStarts.keep K17q nin0).keep K24q nin0)
  have f36 := ((pr_F_a_1_derivations.keep K17q nin0).keep K24q nin0)
  have f37 := ((pr_F_a_1_heads.keep K17q nin0).keep K24q nin0)
  have f38 := ((pr_F_a_1_occurrenceStarts.keep K17q nin0).keep K24q nin0)
  have f39 := ((pr_F_a_1_occurrences.keep K17q nin0).keep K24q nin0)
  have f40 := (f23.keep K24q nin0)
  have f41 := ((pr_M_g_lam.keep K17q).keep K24q)
  obtain ⟨cq42, q42, q42'⟩ := (id f31).cell
  obtain ⟨_, _, ⟨T42, L42, k42, n42⟩, -, X42, ⟨Lc42, hQ42, l42, y42, z42⟩, st42⟩ := X24.privateBack hx (y := (⟨own_N1, "index", "()V"⟩ : MethodName)) hown (mvT hZ (hw _ (List.mem_of_getElem? (i := 66) rfl))) (mvT hZ (hw _ (List.mem_of_getElem? (i := 67) rfl))) (own_selfsel hZ (own_w1 hw) (hw _ (List.mem_of_getElem? (i := 67) rfl)) (hw _ (List.mem_of_getElem? (i := 68) rfl)) (by decide)) (Cond.privateMethod_at (mvP hZ (hw _ (List.mem_of_getElem? (i := 68) rfl)) (args := #[]))) (mvT hZ (hw _ (List.mem_of_getElem? (i := 69) rfl))) (by decide) (backOf (W := 0) (own_rm10_s3 l Z a0 hw [] a_1 g_lam ob2 ob1 ob0 u_0 u_1 u_2 T24.heap n0 (by omega) f28 f29 f30 f31 f32 f33 f34 f35 f36 f37 f38 f39 f40 f41 (by simp only [own_lts, and_true]; omega) (by simp only [own_lts, and_true]; omega) (by omega)) hZ (hw _ (List.mem_of_getElem? (i := 69) rfl)) (own_w2 hw) (by decide) (by decide)) (g := (mkF m 40 #[.val (.ref a_1), .val (.ref a_2), .val (.int 1), .val (.ref a_2), .val (.int 1), .val (.int 1), .val (.int 0), .unset, .unset] [(.ref a_1)])) rfl (by rw [hml]; rfl) (Steps.refl _) (a := a_1) q42 q42' (argsL := []) (rest := []) (lenOf own_pd1 rfl) rfl (by show 2 * 0 + _ ≤ _; exact Nat.le_of_eq rfl) (hb hby own_d9_40) (fun _ _ => ⟨rfl, rfl, (by show k24 + _ ≤ _; rw [y24]; decide), (by show n24 + _ ≤ _; rw [z24]; decide)⟩)
  dsimp only [Pt.U, Pt.locs, Pt.cells, Pt.slots] at X42 l42 y42 z42 st42 hQ42
  have y42 : k42 = 12 := own_addeq y42 (congrArg (fun q => q) y24) rfl
  have z42 : n42 = 86 := own_addeq z42 (congrArg (fun q => q) z24) rfl
  obtain ⟨x_43, x_44, x_45, x_46, rfl, N42q, K42q, f47, f48, f49, f50, f51, f52, f53, f54, f55, f56, f57, f58, f59, f60, f61, f62, f63, f64, f65⟩ := hQ42
  have N42 : Fr n0 L42 := by rw [l42]; exact Fr.app N24 N42q
  have z66 := K42q.1
  have K42 : Keep h0 T42.heap [a_1] := K24.trans K42q (allS (Or.inl (List.mem_of_getElem? (i := 0) rfl)) all0)
  have z67 := own_lt f47.lt
  have z68 := own_lt f48.lt
  have z69 := own_lt f49.lt
  have z70 := own_lt f50.lt
  have z71 := own_lt f51.lt
  have z72 := own_lt f52.lt
  have z73 := own_lt f53.lt
  have z74 := own_lt f54.lt
  have z75 := own_lt f55.lt
  have z76 := own_lt f56.lt
  have z77 := own_lt f57.lt
  have z78 := own_lt f58.lt
  have z79 := own_lt f59.lt
  have z80 := own_lt f60.lt
  simp only [own_lts, and_true] at f65
  refine own_go (fun _ k => st42.trans k) ?_
  show own_Go _ _ _ _ T42 (mkF m 43 #[.val (.ref a_1), .val (.ref a_2), .val (.int 1), .val (.ref a_2), .val (.int 1), .val (.int 1), .val (.int 0), .unset, .unset] [])
  obtain ⟨T81, h81, X81, e81, E81, A81, D81, Y81, st81⟩ := newO X42 hx hZ hown (hw _ (List.mem_of_getElem? (i := 110) rfl)) (own_w111 hw) (own_w112 hw) rfl (g := (mkF m 43 #[.val (.ref a_1), .val (.ref a_2), .val (.int 1), .val (.ref a_2), .val (.int 1), .val (.int 1), .val (.int 0), .unset, .unset] [])) rfl (hb hby own_d9_43) (by rw [y42]; decide) (by rw [z42]; decide)
  obtain ⟨b81, g81⟩ : ∃ z, z = T42.heap.size := ⟨_, rfl⟩
  rw [← g81] at A81 D81 Y81 st81
  have z82 := E81.1
  have lt_b81 := own_lt A81.lt
  have K81 : Keep h0 h81 [a_1] := K42.ext E81
  have F_values_b81 : Fld Z h81 b81 own_N0 "values" "[Z" .null := D81 (Or.inr (own_w119 hw)) (ty := (.array .boolean)) (by decide)
  have F_reasons_b81 : Fld Z h81 b81 own_N0 "reasons" "[I" .null := D81 (Or.inr (own_w121 hw)) (ty := (.array .int)) (by decide)
  have F_order_b81 : Fld Z h81 b81 own_N0 "order" "[I" .null := D81 (Or.inr (own_w123 hw)) (ty := (.array .int)) (by decide)
  have F_size_b81 : Fld Z h81 b81 own_N0 "size" "I" (.int 0) := D81 (Or.inl (own_w130 hw)) (ty := .int) (by decide)
  refine own_go (fun _ k => st81 _ k) ?_
  show own_Go _ _ _ _ T81 (mkF m 46 #[.val (.ref a_1), .val (.ref a_2), .val (.int 1), .val (.ref a_2), .val (.int 1), .val (.int 1), .val (.int 0), .unset, .unset] [(.ref b81)])
  refine own_go (fun _ k => XS.dup X81.here hx rfl (hb hby own_d9_46) rfl rfl (XS.aloadN X81.here hx rfl (hb hby own_d9_47) rfl rfl k)) ?_
  have f83 := (f56.ext E81)
  obtain ⟨T84, X84, e84, st84⟩ := getF X81 hx hZ hown (host := "") (Or.inl (own_w23 hw)) Via.refl e81 f83 (g := (mkF m 48 #[.val (.ref a_1), .val (.ref a_2), .val (.int 1), .val (.ref a_2), .val (.int 1), .val (.int 1), .val (.int 0), .unset, .unset] [(.ref a_1), (.ref b81), (.ref b81)])) rfl rfl (hb hby own_d9_48)
  refine own_go (fun _ k => st84 _ k) ?_
  show own_Go _ _ _ _ T84 (mkF m 51 #[.val (.ref a_1), .val (.ref a_2), .val (.int 1), .val (.ref a_2), .val (.int 1), .val (.int 1), .val (.int 0), .unset, .unset] [(.int 2), (.ref b81), (.ref b81)])
  obtain ⟨_, _, ⟨T85, L85, k85, n85⟩, -, X85, ⟨Lc85, hQ85, l85, y85, z85⟩, st85⟩ := X84.specialBack hx (y := (⟨own_N0, "<init>", "(I)V"⟩ : MethodName)) rfl hown (mvT hZ (hw _ (List.mem_of_getElem? (i := 113) rfl))) (mvT hZ (hw _ (List.mem_of_getElem? (i := 114) rfl))) (mvT hZ (hw _ (List.mem_of_getElem? (i := 115) rfl))) (by decide) (backOf (W := 1) (own_rm19_s2 l Z a0 hw [] b81 .null .null .null (.int 0) h81 n0 (by omega) A81 F_order_b81 F_reasons_b81 F_size_b81 F_values_b81 (by omega)) hZ (hw _ (List.mem_of_getElem? (i := 115) rfl)) (own_w112 hw) (by decide) (by decide)) (g := (mkF m 51 #[.val (.ref a_1), .val (.ref a_2), .val (.int 1), .val (.ref a_2), .val (.int 1), .val (.int 1), .val (.int 0), .unset, .unset] [(.int 2), (.ref b81), (.ref b81)])) rfl (by rw [hml]; rfl) (Steps.refl _) (a := b81) (argsL := [(.int 2)]) (rest := [(.ref b81)]) (lenOf own_pd3 rfl) rfl (by show 2 * 0 + _ ≤ _; exact Nat.le_of_eq rfl) (hb hby own_d9_51) (fun _ _ => ⟨rfl, e84, (by show k42 + 1 + _ ≤ _; rw [y42]; decide), (by show n42 + 4 + _ ≤ _; rw [z42]; decide)⟩)
  dsimp only [Pt.U, Pt.locs, Pt.cells, Pt.slots] at X85 l85 y85 z85 st85 hQ85
  have y85 : k85 = 16 := own_addeq y85 (congrArg (fun q => q + 1) y42) rfl
  have z85 : n85 = 96 := own_addeq z85 (congrArg (fun q => q + 4) z42) rfl
  obtain ⟨x_86, x_87, x_88, rfl, N85q, K85q, f89, f90, f91, f92, f93, f94, f95, f96, f97, f98, f99, f100⟩ := hQ85
  have N85 : Fr n0 L85 := by rw [l85]; exact Fr.app N42 N85q
  have z101 := K85q.1
  have K85 : Keep h0 T85.heap [a_1] := K81.trans K85q (allS (Or.inr (by omega)) all0)
  have z102 := own_lt f89.lt
  have z103 := own_lt f90.lt
  have z104 := own_lt f91.lt
  have z105 := own_lt f92.lt
  have z106 := own_lt f93.lt
  have z107 := own_lt f94.lt
  have z108 := own_lt f95.lt
  have z109 := own_lt f96.lt
  simp only [own_lts, and_true] at f100
  refine own_go (fun _ k => st85.trans k) ?_
  show own_Go _ _ _ _ T85 (mkF m 54 #[.val (.ref a_1), .val (.ref a_2), .val (.int 1), .val (.ref a_2), .val (.int 1), .val (.int 1), .val (.int 0), .unset, .unset] [(.ref b81)])
  refine own_go (fun _ k => XS.astoreN X85.here hx rfl (hb hby own_d9_54) rfl rfl (l' := #[.val (.ref a_1), .val (.ref a_2), .val (.int 1), .val (.ref b81), .val (.int 1), .val (.int 1), .val (.int 0), .unset, .unset]) rfl (XS.aloadN X85.here hx rfl (hb hby own_d9_55) rfl rfl k)) ?_
  have f110 := ((f50.ext E81).keep K85q (ninS (own_ne (by omega)) nin0))
  obtain ⟨T111, X111, e111, st111⟩ := getF X85 hx hZ hown (host := "") (Or.inl (own_w46 hw)) Via.refl rfl f110 (g := (mkF m 56 #[.val (.ref a_1), .val (.ref a_2), .val (.int 1), .val (.ref b81), .val (.int 1), .val (.int 1), .val (.int 0), .unset, .unset] [(.ref a_1)])) rfl rfl (hb hby own_d9_56)
  refine own_go (fun _ k => st111 _ k) ?_
  show own_Go _ _ _ _ T111 (mkF m 59 #[.val (.ref a_1), .val (.ref a_2), .val (.int 1), .val (.ref b81), .val (.int 1), .val (.int 1), .val (.int 0), .unset, .unset] [(.int 1)])
  obtain ⟨T112, h112, k112, X112, e112, E112, A112, st112⟩ := newP X111 hx hZ (hw _ (List.mem_of_getElem? (i := 9) rfl)) e111 (g := (mkF m 59 #[.val (.ref a_1), .val (.ref a_2), .val (.int 1), .val (.ref b81), .val (.int 1), .val (.int 1), .val (.int 0), .unset, .unset] [(.int 1)])) rfl (hb hby own_d9_59) rfl (by decide) (cap := 1) (by decide) (by decide) (by rw [y85]; decide) (by rw [z85]; decide)
  obtain ⟨b112, g112⟩ : ∃ z, z = T85.heap.size := ⟨_, rfl⟩
  rw [← g112] at A112 st112
  have z113 := E112.1
  have lt_b112 := own_lt A112.lt
  have K112 : Keep h0 h112 [a_1] := K85.ext E112
  have V_b112 : own_AV Z h112 b112 .int 1 (fun _ => (.int 0)) := own_AV.new A112 (by decide)
  refine own_go (fun _ k => st112 _ k) ?_
  show own_Go _ _ _ _ T112 (mkF m 61 #[.val (.ref a_1), .val (.ref a_2), .val (.int 1), .val (.ref b81), .val (.int 1), .val (.int 1), .val (.int 0), .unset, .unset] [(.ref b112)])
  refine own_go (fun _ k => XS.astore X112.here hx rfl (hb hby own_d9_61) rfl rfl (l' := #[.val (.ref a_1), .val (.ref a_2), .val (.int 1), .val (.ref b81), .val (.ref b112), .val (.int 1), .val (.int 0), .unset, .unset]) rfl (XS.iconst X112.here hx rfl (hb hby own_d9_63) (XS.istore X112.here hx rfl (hb hby own_d9_64) rfl (l' := #[.val (.ref a_1), .val (.ref a_2), .val (.int 1), .val (.ref b81), .val (.ref b112), .val (.int 0), .val (.int 0), .unset, .unset]) rfl (XS.iload X112.here hx rfl (hb hby own_d9_66) rfl k)))) ?_
  show own_Go _ _ _ _ T112 (mkF m 68 #[.val (.ref a_1), .val (.ref a_2), .val (.int 1), .val (.ref b81), .val (.ref b112), .val (.int 0), .val (.int 0), .unset, .unset] [(.int 0)])
  refine own_go (fun _ k => XS.aloadN X112.here hx rfl (hb hby own_d9_68) rfl rfl k) ?_
  have f114 := (f110.ext E112)
  obtain ⟨T115, X115, e115, st115⟩ := getF X112 hx hZ hown (host := "") (Or.inl (own_w46 hw)) Via.refl e112 f114 (g := (mkF m 69 #[.val (.ref a_1), .val (.ref a_2), .val (.int 1), .val (.ref b81), .val (.ref b112), .val (.int 0), .val (.int 0), .unset, .unset] [(.ref a_1), (.int 0)])) rfl rfl (hb hby own_d9_69)
  refine own_go (fun _ k => st115 _ k) ?_
  show own_Go _ _ _ _ T115 (mkF m 72 #[.val (.ref a_1), .val (.ref a_2), .val (.int 1), .val (.ref b81), .val (.ref b112), .val (.int 0), .val (.int 0), .unset, .unset] [(.int 1), (.int 0)])
  have hc116 : (0 : Int32) < (1 : Int32) := by decide
  refine own_go (fun _ k => XS.icmpNo X115.here hx rfl (hb hby own_d9_72) rfl (Jvm.Free.XT.ii_ge_f hc116) (XS.aload X115.here hx rfl (hb hby own_d9_75) rfl rfl (XS.iload X115.here hx rfl (hb hby own_d9_77) rfl (XS.aloadN X115.here hx rfl (hb hby own_d9_79) rfl rfl k)))) ?_
  show own_Go _ _ _ _ T115 (mkF m 80 #[.val (.ref a_1), .val (.ref a_2), .val (.int 1), .val (.ref b81), .val (.ref b112), .val (.int 0), .val (.int 0), .unset, .unset] [(.ref a_1), (.int 0), (.ref b112)])
  have f117 := (((f49.ext E81).keep K85q (ninS (own_ne (by omega)) nin0)).ext E112)
  obtain ⟨T118, X118, e118, st118⟩ := getF X115 hx hZ hown (host := "") (Or.inl (own_w12 hw)) Via.refl e115 f117 (g := (mkF m 80 #[.val (.ref a_1), .val (.ref a_2), .val (.int 1), .val (.ref b81), .val (.ref b112), .val (.int 0), .val (.int 0), .unset, .unset] [(.ref a_1), (.int 0), (.ref b112)])) rfl rfl (hb hby own_d9_80)
  refine own_go (fun _ k => st118 _ k) ?_
  show own_Go _ _ _ _ T118 (mkF m 83 #[.val (.ref a_1), .val (.ref a_2), .val (.int 1), .val (.ref b81), .val (.ref b112), .val (.int 0), .val (.int 0), .unset, .unset] [(.ref ob1), (.int 0), (.ref b112)])
  refine own_go (fun _ k => XS.iload X118.here hx rfl (hb hby own_d9_83) rfl (XS.iconst X118.here hx rfl (hb hby own_d9_85) (XS.iadd X118.here hx rfl (hb hby own_d9_86) rfl k))) ?_
  have f119 := ((((f29.keep K42q (ninS (own_ne (by omega)) nin0)).ext E81).keep K85q (ninS (own_ne (by omega)) nin0)).ext E112)
  obtain ⟨q120, c120, R120, s120, t120⟩ := id f119
  have hin120 : ¬ ((1 : Int32) < 0 ∨ c120.slots.size ≤ ((1 : Int32)).toNatClampNeg) := inb_of s120 ⟨by decide, by decide⟩
  have u120 : c120.slots[((1 : Int32)).toNatClampNeg]? = some (.int 1) := own_at (k := 1) t120 s120 hin120 (by decide) (rfl)
  refine own_go (fun _ k => X118.iaload hx (j := (1 : Int32)) (v := (.int 1)) (by rw [e118]; exact R120.1) (State.isArrayOf_alike hZ.alike R120.2.1) R120.2.2 hin120 u120 (g := (mkF m 87 #[.val (.ref a_1), .val (.ref a_2), .val (.int 1), .val (.ref b81), .val (.ref b112), .val (.int 0), .val (.int 0), .unset, .unset] [(.int 1), (.ref ob1), (.int 0), (.ref b112)])) rfl rfl (hb hby own_d9_87) _ k) ?_
  show own_Go _ _ _ _ T118 (mkF m 88 #[.val (.ref a_1), .val (.ref a_2), .val (.int 1), .val (.ref b81), .val (.ref b112), .val (.int 0), .val (.int 0), .unset, .unset] [(.int 1), (.int 0), (.ref b112)])
  refine own_go (fun _ k => XS.aloadN X118.here hx rfl (hb hby own_d9_88) rfl rfl k) ?_
  obtain ⟨T121, X121, e121, st121⟩ := getF X118 hx hZ hown (host := "") (Or.inl (own_w12 hw)) Via.refl e118 f117 (g := (mkF m 89 #[.val (.ref a_1), .val (.ref a_2), .val (.int 1), .val (.ref b81), .val (.ref b112), .val (.int 0), .val (.int 0), .unset, .unset] [(.ref a_1), (.int 1), (.int 0), (.ref b112)])) rfl rfl (hb hby own_d9_89)
  refine own_go (fun _ k => st121 _ k) ?_
  show own_Go _ _ _ _ T121 (mkF m 92 #[.val (.ref a_1), .val (.ref a_2), .val (.int 1), .val (.ref b81), .val (.ref b112), .val (.int 0), .val (.int 0), .unset, .unset] [(.ref ob1), (.int 1), (.int 0), (.ref b112)])
  refine own_go (fun _ k => XS.iload X121.here hx rfl (hb hby own_d9_92) rfl k) ?_
  obtain ⟨q122, c122, R122, s122, t122⟩ := id f119
  have hin122 : ¬ ((0 : Int32) < 0 ∨ c122.slots.size ≤ ((0 : Int32)).toNatClampNeg) := inb_of s122 ⟨by decide, by decide⟩
  have u122 : c122.slots[((0 : Int32)).toNatClampNeg]? = some (.int 0) := own_at (k := 0) t122 s122 hin122 (by decide) (rfl)
  refine own_go (fun _ k => X121.iaload hx (j := (0 : Int32)) (v := (.int 0)) (by rw [e121]; exact R122.1) (State.isArrayOf_alike hZ.alike R122.2.1) R122.2.2 hin122 u122 (g := (mkF m 94 #[.val (.ref a_1), .val (.ref a_2), .val (.int 1), .val (.ref b81), .val (.ref b112), .val (.int 0), .val (.int 0), .unset, .unset] [(.int 0), (.ref ob1), (.int 1), (.int 0), (.ref b112)])) rfl rfl (hb hby own_d9_94) _ k) ?_
  show own_Go _ _ _ _ T121 (mkF m 95 #[.val (.ref a_1), .val (.ref a_2), .val (.int 1), .val (.ref b81), .val (.ref b112), .val (.int 0), .val (.int 0), .unset, .unset] [(.int 0), (.int 1), (.int 0), (.ref b112)])
  refine own_go (fun _ k => XS.isub X121.here hx rfl (hb hby own_d9_95) rfl k) ?_
  obtain ⟨q123, c123, R123, s123, t123⟩ := id V_b112
  have hin123 : ¬ ((0 : Int32) < 0 ∨ c123.slots.size ≤ ((0 : Int32)).toNatClampNeg) := inb_of s123 ⟨by decide, by decide⟩
  obtain ⟨T124, h124, X124, e124, W124, st124⟩ := stI X121 hx hZ e121 R123 (j := (0 : Int32)) hin123 (g := (mkF m 96 #[.val (.ref a_1), .val (.ref a_2), .val (.int 1), .val (.ref b81), .val (.ref b112), .val (.int 0), .val (.int 0), .unset, .unset] [(.int 1), (.int 0), (.ref b112)])) rfl rfl (hb hby own_d9_96)
  have V124 : own_AV Z h124 b112 .int 1 (own_upd (fun _ => (.int 0)) 0 (.int 1)) := own_AV.set (k := 0) V_b112 W124 (by decide)
  have z125 := W124.size
  have K124 : Keep h0 h124 [a_1] := K112.wr W124 (Or.inr (by omega))
  have N124 := Fr.snoc X124 N85 (by omega : n0 ≤ b112)
  refine own_go (fun _ k => st124 _ k) ?_
  show own_Go _ _ _ _ T124 (mkF m 97 #[.val (.ref a_1), .val (.ref a_2), .val (.int 1), .val (.ref b81), .val (.ref b112), .val (.int 0), .val (.int 0), .unset, .unset] [])
  refine own_go (fun _ k => XS.aload X124.here hx rfl (hb hby own_d9_97) rfl rfl (XS.iload X124.here hx rfl (hb hby own_d9_99) rfl k)) ?_
  obtain ⟨q126, c126, R126, s126, t126⟩ := id V124
  have hin126 : ¬ ((0 : Int32) < 0 ∨ c126.slots.size ≤ ((0 : Int32)).toNatClampNeg) := inb_of s126 ⟨by decide, by decide⟩
  have u126 : c126.slots[((0 : Int32)).toNatClampNeg]? = some (.int 1) := own_at (k := 0) t126 s126 hin126 (by decide) (rfl)
  refine own_go (fun _ k => X124.iaload hx (j := (0 : Int32)) (v := (.int 1)) (by rw [e124]; exact R126.1) (State.isArrayOf_alike hZ.alike R126.2.1) R126.2.2 hin126 u126 (g := (mkF m 101 #[.val (.ref a_1), .val (.ref a_2), .val (.int 1), .val (.ref b81), .val (.ref b112), .val (.int 0), .val (.int 0), .unset, .unset] [(.int 0), (.ref b112)])) rfl rfl (hb hby own_d9_101) _ k) ?_
  show own_Go _ _ _ _ T124 (mkF m 102 #[.val (.ref a_1), .val (.ref a_2), .val (.int 1), .val (.ref b81), .val (.ref b112), .val (.int 0), .val (.int 0), .unset, .unset] [(.int 1)])
  have hc127 : ¬ ((1 : Int32) = 0) := by decide
  refine own_go (fun _ k => XS.ifYes X124.here hx rfl (pc0 := 102) (pc' := 118) rfl (hb hby own_d9_102) rfl (Jvm.Free.XT.i0_ne_t hc127) (by decide) (by decide) (XS.iinc X124.here hx rfl (hb hby own_d9_118) rfl (l' := #[.val (.ref a_1), .val (.ref a_2), .val (.int 1), .val (.ref b81), .val (.ref b112), .val (.int 1), .val (.int 0), .unset, .unset]) rfl (XS.goto X124.here hx rfl (pc0 := 121) (pc' := 66) rfl (hb hby own_d9_121) (by decide) (by decide) (XS.iload X124.here hx rfl (hb hby own_d9_66) rfl k)))) ?_
  show own_Go _ _ _ _ T124 (mkF m 68 #[.val (.ref a_1), .val (.ref a_2), .val (.int 1), .val (.ref b81), .val (.ref b112), .val (.int 1), .val (.int 0), .unset, .unset] [(.int 1)])
  refine own_go (fun _ k => XS.aloadN X124.here hx rfl (hb hby own_d9_68) rfl rfl k) ?_
  have f128 := (f114.other W124 (Or.inl (own_ne (by omega))))
  obtain ⟨T129, X129, e129, st129⟩ := getF X124 hx hZ hown (host := "") (Or.inl (own_w46 hw)) Via.refl e124 f128 (g := (mkF m 69 #[.val (.ref a_1), .val (.ref a_2), .val (.int 1), .val (.ref b81), .val (.ref b112), .val (.int 1), .val (.int 0), .unset, .unset] [(.ref a_1), (.int 1)])) rfl rfl (hb hby own_d9_69)
  refine own_go (fun _ k => st129 _ k) ?_
  show own_Go _ _ _ _ T129 (mkF m 72 #[.val (.ref a_1), .val (.ref a_2), .val (.int 1), .val (.ref b81), .val (.ref b112), .val (.int 1), .val (.int 0), .unset, .unset] [(.int 1), (.int 1)])
  have hc130 : ¬ ((1 : Int32) < (1 : Int32)) := by decide
  refine own_go (fun _ k => XS.icmpYes X129.here hx rfl (pc0 := 72) (pc' := 124) rfl (hb hby own_d9_72) rfl (Jvm.Free.XT.ii_ge_t hc130) (by decide) (by decide) (XS.aloadN X129.here hx rfl (hb hby own_d9_124) rfl rfl (XS.astore X129.here hx rfl (hb hby own_d9_125) rfl rfl (l' := #[.val (.ref a_1), .val (.ref a_2), .val (.int 1), .val (.ref b81), .val (.ref b112), .val (.ref a_2), .val (.int 0), .unset, .unset]) rfl (XS.aload X129.here hx rfl (hb hby own_d9_127) rfl rfl k)))) ?_
  show own_Go _ _ _ _ T129 (mkF m 129 #[.val (.ref a_1), .val (.ref a_2), .val (.int 1), .val (.ref b81), .val (.ref b112), .val (.ref a_2), .val (.int 0), .unset, .unset] [(.ref a_2)])
  have f131 := ((((((f19.keep K24q nin0).keep K42q (ninS (own_ne (by omega)) nin0)).ext E81).keep K85q (ninS (own_ne (by omega)) nin0)).ext E112).other W124 (own_ne (by omega)))
  obtain ⟨q132, c132, R132, s132, t132⟩ := id f131
  refine own_go (fun _ k => X129.arraylength hx (by rw [e129]; exact R132.1) (State.isArrayOf_alike hZ.alike R132.2.1) (g := (mkF m 129 #[.val (.ref a_1), .val (.ref a_2), .val (.int 1), .val (.ref b81), .val (.ref b112), .val (.ref a_2), .val (.int 0), .unset, .unset] [(.ref a_2)])) rfl rfl (hb hby own_d9_129) _ k) ?_
  rw [len_of s132 q132]
  show own_Go _ _ _ _ T129 (mkF m 130 #[.val (.ref a_1), .val (.ref a_2), .val (.int 1), .val (.ref b81), .val (.ref b112), .val (.ref a_2), .val (.int 0), .unset, .unset] [(.int 1)])
  refine own_go (fun _ k => XS.istore X129.here hx rfl (hb hby own_d9_130) rfl (l' := #[.val (.ref a_1), .val (.ref a_2), .val (.int 1), .val (.ref b81), .val (.ref b112), .val (.ref a_2), .val (.int 1), .unset, .unset]) rfl (XS.iconst X129.here hx rfl (hb hby own_d9_132) (XS.istore X129.here hx rfl (hb hby own_d9_133) rfl (l' := #[.val (.ref a_1), .val (.ref a_2), .val (.int 1), .val (.ref b81), .val (.ref b112), .val (.ref a_2), .val (.int 1), .val (.int 0), .unset]) rfl (XS.iload X129.here hx rfl (hb hby own_d9_135) rfl k)))) ?_
  show own_Go _ _ _ _ T129 (mkF m 137 #[.val (.ref a_1), .val (.ref a_2), .val (.int 1), .val (.ref b81), .val (.ref b112), .val (.ref a_2), .val (.int 1), .val (.int 0), .unset] [(.int 0)])
  refine own_go (fun _ k => XS.iload X129.here hx rfl (hb hby own_d9_137) rfl k) ?_
  have hc133 : (0 : Int32) < (1 : Int32) := by decide
  refine own_go (fun _ k => XS.icmpNo X129.here hx rfl (hb hby own_d9_139) rfl (Jvm.Free.XT.ii_ge_f hc133) (XS.aload X129.here hx rfl (hb hby own_d9_142) rfl rfl (XS.iload X129.here hx rfl (hb hby own_d9_144) rfl k))) ?_
  obtain ⟨q134, c134, R134, s134, t134⟩ := id f131
  have hin134 : ¬ ((0 : Int32) < 0 ∨ c134.slots.size ≤ ((0 : Int32)).toNatClampNeg) := inb_of s134 ⟨by decide, by decide⟩
  have u134 : c134.slots[((0 : Int32)).toNatClampNeg]? = some (.int 0) := own_at (k := 0) t134 s134 hin134 (by decide) (rfl)
  refine own_go (fun _ k => X129.iaload hx (j := (0 : Int32)) (v := (.int 0)) (by rw [e129]; exact R134.1) (State.isArrayOf_alike hZ.alike R134.2.1) R134.2.2 hin134 u134 (g := (mkF m 146 #[.val (.ref a_1), .val (.ref a_2), .val (.int 1), .val (.ref b81), .val (.ref b112), .val (.ref a_2), .val (.int 1), .val (.int 0), .unset] [(.int 0), (.ref a_2)])) rfl rfl (hb hby own_d9_146) _ k) ?_
  show own_Go _ _ _ _ T129 (mkF m 147 #[.val (.ref a_1), .val (.ref a_2), .val (.int 1), .val (.ref b81), .val (.ref b112), .val (.ref a_2), .val (.int 1), .val (.int 0), .unset] [(.int 0)])
  refine own_go (fun _ k => XS.istore X129.here hx rfl (hb hby own_d9_147) rfl (l' := #[.val (.ref a_1), .val (.ref a_2), .val (.int 1), .val (.ref b81), .val (.ref b112), .val (.ref a_2), .val (.int 1), .val (.int 0), .val (.int 0)]) rfl (XS.aloadN X129.here hx rfl (hb hby own_d9_149) rfl rfl (XS.iload X129.here hx rfl (hb hby own_d9_150) rfl (XS.iconst X129.here hx rfl (hb hby own_d9_152) k)))) ?_
  show own_Go _ _ _ _ T129 (mkF m 153 #[.val (.ref a_1), .val (.ref a_2), .val (.int 1), .val (.ref b81), .val (.ref b112), .val (.ref a_2), .val (.int 1), .val (.int 0), .val (.int 0)] [(.int (-1)), (.int 0), (.ref b81)])
  have f135 := ((f96.ext E112).other W124 (own_ne (by omega)))
  have f136 := ((f95.ext E112).other W124 (own_ne (by omega)))
  have f137 := ((f94.ext E112).other W124 (own_ne (by omega)))
  have f138 := ((f89.ext E112).wr W124)
  have f139 := ((f90.ext E112).other W124 (Or.inl (own_ne (by omega))))
  have f140 := ((f91.ext E112).other W124 (Or.inl (own_ne (by omega))))
  have f141 := ((f92.ext E112).other W124 (Or.inl (own_ne (by omega))))
  have f142 := ((f93.ext E112).other W124 (Or.inl (own_ne (by omega))))
  obtain ⟨cq143, kq143, q143a, q143b, q143c⟩ := isOf hZ e129 f138
  obtain ⟨_, _, ⟨T143, L143, k143, n143⟩, -, X143, ⟨Lc143, hQ143, l143, y143, z143⟩, st143⟩ := X129.virtualBack hx (y := (⟨own_N0, "assign", "(II)V"⟩ : MethodName)) (z := (⟨own_N0, "assign", "(II)V"⟩ : MethodName)) hown (mvT hZ (hw _ (List.mem_of_getElem? (i := 124) rfl))) (mvT hZ (hw _ (List.mem_of_getElem? (i := 125) rfl))) (notFace_of_selects (args := #[]) (mvT hZ (hw _ (List.mem_of_getElem? (i := 127) rfl)))) (mvT hZ (hw _ (List.mem_of_getElem? (i := 127) rfl))) (mvT hZ (hw _ (List.mem_of_getElem? (i := 126) rfl))) (by decide) (backOf (W := 0) (own_rm20_s4 l Z a0 hw [] b81 x_86 x_87 x_88 h124 n0 (by omega) f135 f136 f137 f138 f139 f140 f141 f142 (by simp only [own_lts, and_true]; omega) (by omega) (by omega) (by omega) (by omega)) hZ (hw _ (List.mem_of_getElem? (i := 128) rfl)) (own_w112 hw) (by decide) (by decide)) q143a q143c (g := (mkF m 153 #[.val (.ref a_1), .val (.ref a_2), .val (.int 1), .val (.ref b81), .val (.ref b112), .val (.ref a_2), .val (.int 1), .val (.int 0), .val (.int 0)] [(.int (-1)), (.int 0), (.ref b81)])) rfl (by rw [hml]; rfl) (Steps.refl _) (argsL := [(.int 0), (.int (-1))]) (rest := []) (lenOf own_pd12 rfl) rfl (by show 2 * 0 + _ ≤ _; exact Nat.le_of_eq rfl) (hb hby own_d9_153) (fun _ _ => ⟨rfl, e129, (by show k85 + 1 + _ ≤ _; rw [y85]; decide), (by show n85 + 1 + _ ≤ _; rw [z85]; decide)⟩)
  dsimp only [Pt.U, Pt.locs, Pt.cells, Pt.slots] at X143 l143 y143 z143 st143 hQ143
  have y143 : k143 = 17 := own_addeq y143 (congrArg (fun q => q + 1) y85) rfl
  have z143 : n143 = 97 := own_addeq z143 (congrArg (fun q => q + 1) z85) rfl
  obtain ⟨rfl, N143q, K143q, f144, f145, f146, f147, f148, f149, f150, f151⟩ := hQ143
  have N143 : Fr n0 L143 := by rw [l143]; exact Fr.app N124 N143q
  have z152 := K143q.1
  have K143 : Keep h0 T143.heap [a_1] := K124.trans K143q (allS (Or.inr (by omega)) (allS (Or.inr (by omega)) (allS (Or.inr (by omega)) (allS (Or.inr (by omega)) all0))))
  have z153 := own_lt f144.lt
  have z154 := own_lt f145.lt
  have z155 := own_lt f146.lt
  have z156 := own_lt f147.lt
  have z157 := own_lt f148.lt
  have z158 := own_lt f149.lt
  have z159 := own_lt f150.lt
  have z160 := own_lt f151.lt
  refine own_go (fun _ k => st143.trans k) ?_
  show own_Go _ _ _ _ T143 (mkF m 156 #[.val (.ref a_1), .val (.ref a_2), .val (.int 1), .val (.ref b81), .val (.ref b112), .val (.ref a_2), .val (.int 1), .val (.int 0), .val (.int 0)] [])
  refine own_go (fun _ k => XS.iinc X143.here hx rfl (hb hby own_d9_156) rfl (l' := #[.val (.ref a_1), .val (.ref a_2), .val (.int 1), .val (.ref b81), .val (.ref b112), .val (.ref a_2), .val (.int 1), .val (.int 1), .val (.int 0)]) rfl (XS.goto X143.here hx rfl (pc0 := 159) (pc' := 135) rfl (hb hby own_d9_159) (by decide) (by decide) (XS.iload X143.here hx rfl (hb hby own_d9_135) rfl (XS.iload X143.here hx rfl (hb hby own_d9_137) rfl k)))) ?_
  show own_Go _ _ _ _ T143 (mkF m 139 #[.val (.ref a_1), .val (.ref a_2), .val (.int 1), .val (.ref b81), .val (.ref b112), .val (.ref a_2), .val (.int 1), .val (.int 1), .val (.int 0)] [(.int 1), (.int 1)])
  have hc161 : ¬ ((1 : Int32) < (1 : Int32)) := by decide
  refine own_go (fun _ k => XS.icmpYes X143.here hx rfl (pc0 := 139) (pc' := 162) rfl (hb hby own_d9_139) rfl (Jvm.Free.XT.ii_ge_t hc161) (by decide) (by decide) (XS.iconst X143.here hx rfl (hb hby own_d9_162) (XS.istore X143.here hx rfl (hb hby own_d9_163) rfl (l' := #[.val (.ref a_1), .val (.ref a_2), .val (.int 1), .val (.ref b81), .val (.ref b112), .val (.int 0), .val (.int 1), .val (.int 1), .val (.int 0)]) rfl (XS.aloadN X143.here hx rfl (hb hby own_d9_165) rfl rfl k)))) ?_
  show own_Go _ _ _ _ T143 (mkF m 166 #[.val (.ref a_1), .val (.ref a_2), .val (.int 1), .val (.ref b81), .val (.ref b112), .val (.int 0), .val (.int 1), .val (.int 1), .val (.int 0)] [(.ref b81)])
  refine own_go (fun _ k => XS.iloadN X143.here hx rfl (hb hby own_d9_166) rfl k) ?_
  obtain ⟨cq162, kq162, q162a, q162b, q162c⟩ := isOf hZ rfl f147
  obtain ⟨_, _, ⟨T162, L162, k162, n162⟩, -, X162, ⟨Lc162, hQ162, l162, y162, z162⟩, st162⟩ := X143.virtualBack hx (y := (⟨own_N0, "isTrue", "(I)Z"⟩ : MethodName)) (z := (⟨own_N0, "isTrue", "(I)Z"⟩ : MethodName)) hown (mvT hZ (hw _ (List.mem_of_getElem? (i := 131) rfl))) (mvT hZ (hw _ (List.mem_of_getElem? (i := 132) rfl))) (notFace_of_selects (args := #[]) (mvT hZ (own_w134 hw))) (mvT hZ (own_w134 hw)) (mvT hZ (hw _ (List.mem_of_getElem? (i := 133) rfl))) (by decide) (backOf (W := 0) (own_rm21_s4 l Z a0 hw [] b81 x_88 T143.heap n0 (by omega) f144 f151 (by simp only [own_lts, and_true]; omega)) hZ (hw _ (List.mem_of_getElem? (i := 135) rfl)) (own_w112 hw) (by decide) (by decide)) q162a q162c (g := (mkF m 167 #[.val (.ref a_1), .val (.ref a_2), .val (.int 1), .val (.ref b81), .val (.ref b112), .val (.int 0), .val (.int 1), .val (.int 1), .val (.int 0)] [(.int 1), (.ref b81)])) rfl (by rw [hml]; rfl) (Steps.refl _) (argsL := [(.int 1)]) (rest := []) (lenOf own_pd13 rfl) rfl (by show 2 * 0 + _ ≤ _; exact Nat.le_of_eq rfl) (hb hby own_d9_167) (fun _ _ => ⟨rfl, rfl, (by show k143 + _ ≤ _; rw [y143]; decide), (by show n143 + _ ≤ _; rw [z143]; decide)⟩)
  dsimp only [Pt.U, Pt.locs, Pt.cells, Pt.slots] at X162 l162 y162 z162 st162 hQ162
  have y162 : k162 = 17 := own_addeq y162 (congrArg (fun q => q) y143) rfl
  have z162 : n162 = 97 := own_addeq z162 (congrArg (fun q => q) z143) rfl
  obtain ⟨rfl, N162q, e162⟩ := hQ162
  have N162 : Fr n0 L162 := by rw [l162]; exact Fr.app N143 N162q
  refine own_go (fun _ k => st162.trans k) ?_
  show own_Go _ _ _ _ T162 (mkF m 170 #[.val (.ref a_1), .val (.ref a_2), .val (.int 1), .val (.ref b81), .val (.ref b112), .val (.int 0), .val (.int 1), .val (.int 1), .val (.int 0)] [(.int 0)])
  have hc163 : (0 : Int32) = 0 := by decide
  refine own_go (fun _ k => XS.ifNo X162.here hx rfl (hb hby own_d9_170) rfl (Jvm.Free.XT.i0_ne_f hc163) (XS.iload X162.here hx rfl (hb hby own_d9_173) rfl (XS.aloadN X162.here hx rfl (hb hby own_d9_175) rfl rfl k))) ?_
  obtain ⟨cq164, kq164, q164a, q164b, q164c⟩ := isOf hZ e162 f147
  obtain ⟨_, _, ⟨T164, L164, k164, n164⟩, -, X164, ⟨Lc164, hQ164, l164, y164, z164⟩, st164⟩ := X162.virtualBack hx (y := (⟨own_N0, "size", "()I"⟩ : MethodName)) (z := (⟨own_N0, "size", "()I"⟩ : MethodName)) hown (mvT hZ (hw _ (List.mem_of_getElem? (i := 136) rfl))) (mvT hZ (hw _ (List.mem_of_getElem? (i := 137) rfl))) (notFace_of_selects (args := #[]) (mvT hZ (hw _ (List.mem_of_getElem? (i := 139) rfl)))) (mvT hZ (hw _ (List.mem_of_getElem? (i := 139) rfl))) (mvT hZ (hw _ (List.mem_of_getElem? (i := 138) rfl))) (by decide) (backOf (W := 1) (own_rm22_s1 l Z a0 hw [] b81  T143.heap n0 (by omega) f150) hZ (hw _ (List.mem_of_getElem? (i := 140) rfl)) (own_w112 hw) (by decide) (by decide)) q164a q164c (g := (mkF m 176 #[.val (.ref a_1), .val (.ref a_2), .val (.int 1), .val (.ref b81), .val (.ref b112), .val (.int 0), .val (.int 1), .val (.int 1), .val (.int 0)] [(.ref b81), (.int 0)])) rfl (by rw [hml]; rfl) (Steps.refl _) (argsL := []) (rest := [(.int 0)]) (lenOf own_pd2 rfl) rfl (by show 2 * 0 + _ ≤ _; exact Nat.le_of_eq rfl) (hb hby own_d9_176) (fun _ _ => ⟨rfl, e162, (by show k162 + _ ≤ _; rw [y162]; decide), (by show n162 + _ ≤ _; rw [z162]; decide)⟩)
  dsimp only [Pt.U, Pt.locs, Pt.cells, Pt.slots] at X164 l164 y164 z164 st164 hQ164
  have y164 : k164 = 17 := own_addeq y164 (congrArg (fun q => q) y162) rfl
  have z164 : n164 = 97 := own_addeq z164 (congrArg (fun q => q) z162) rfl
  obtain ⟨rfl, N164q, e164⟩ := hQ164
  have N164 : Fr n0 L164 := by rw [l164]; exact Fr.app N162 N164q
  refine own_go (fun _ k => st164.trans k) ?_
  show own_Go _ _ _ _ T164 (mkF m 179 #[.val (.ref a_1), .val (.ref a_2), .val (.int 1), .val (.ref b81), .val (.ref b112), .val (.int 0), .val (.int 1), .val (.int 1), .val (.int 0)] [(.int 1), (.int 0)])
  have hc165 : (0 : Int32) < (1 : Int32) := by decide
  refine own_go (fun _ k => XS.icmpNo X164.here hx rfl (hb hby own_d9_179) rfl (Jvm.Free.XT.ii_ge_f hc165) (XS.aloadN X164.here hx rfl (hb hby own_d9_182) rfl rfl (XS.iload X164.here hx rfl (hb hby own_d9_183) rfl k))) ?_
  obtain ⟨cq166, kq166, q166a, q166b, q166c⟩ := isOf hZ e164 f147
  obtain ⟨_, _, ⟨T166, L166, k166, n166⟩, -, X166, ⟨Lc166, hQ166, l166, y166, z166⟩, st166⟩ := X164.virtualBack hx (y := (⟨own_N0, "get", "(I)I"⟩ : MethodName)) (z := (⟨own_N0, "get", "(I)I"⟩ : MethodName)) hown (mvT hZ (hw _ (List.mem_of_getElem? (i := 141) rfl))) (mvT hZ (hw _ (List.mem_of_getElem? (i := 142) rfl))) (notFace_of_selects (args := #[]) (mvT hZ (hw _ (List.mem_of_getElem? (i := 144) rfl)))) (mvT hZ (hw _ (List.mem_of_getElem? (i := 144) rfl))) (mvT hZ (hw _ (List.mem_of_getElem? (i := 143) rfl))) (by decide) (backOf (W := 0) (own_rm23_s3 l Z a0 hw [] b81 x_86 T143.heap n0 (by omega) f146 f148 (by simp only [own_lts, and_true]; omega)) hZ (hw _ (List.mem_of_getElem? (i := 145) rfl)) (own_w112 hw) (by decide) (by decide)) q166a q166c (g := (mkF m 185 #[.val (.ref a_1), .val (.ref a_2), .val (.int 1), .val (.ref b81), .val (.ref b112), .val (.int 0), .val (.int 1), .val (.int 1), .val (.int 0)] [(.int 0), (.ref b81)])) rfl (by rw [hml]; rfl) (Steps.refl _) (argsL := [(.int 0)]) (rest := []) (lenOf own_pd14 rfl) rfl (by show 2 * 0 + _ ≤ _; exact Nat.le_of_eq rfl) (hb hby own_d9_185) (fun _ _ => ⟨rfl, e164, (by show k164 + _ ≤ _; rw [y164]; decide), (by show n164 + _ ≤ _; rw [z164]; decide)⟩)
  dsimp only [Pt.U, Pt.locs, Pt.cells, Pt.slots] at X166 l166 y166 z166 st166 hQ166
  have y166 : k166 = 17 := own_addeq y166 (congrArg (fun q => q) y164) rfl
  have z166 : n166 = 97 := own_addeq z166 (congrArg (fun q => q) z164) rfl
  obtain ⟨rfl, N166q, e166⟩ := hQ166
  have N166 : Fr n0 L166 := by rw [l166]; exact Fr.app N164 N166q
  refine own_go (fun _ k => st166.trans k) ?_
  show own_Go _ _ _ _ T166 (mkF m 188 #[.val (.ref a_1), .val (.ref a_2), .val (.int 1), .val (.ref b81), .val (.ref b112), .val (.int 0), .val (.int 1), .val (.int 1), .val (.int 0)] [(.int 0)])
  refine own_go (fun _ k => XS.istore X166.here hx rfl (hb hby own_d9_188) rfl (l' := #[.val (.ref a_1), .val (.ref a_2), .val (.int 1), .val (.ref b81), .val (.ref b112), .val (.int 0), .val (.int 0), .val (.int 1), .val (.int 0)]) rfl (XS.iinc X166.here hx rfl (hb hby own_d9_190) rfl (l' := #[.val (.ref a_1), .val (.ref a_2), .val (.int 1), .val (.ref b81), .val (.ref b112), .val (.int 1), .val (.int 0), .val (.int 1), .val (.int 0)]) rfl (XS.aloadN X166.here hx rfl (hb hby own_d9_193) rfl rfl k))) ?_
  have f167 := (((((f54.ext E81).keep K85q (ninS (own_ne (by omega)) nin0)).ext E112).other W124 (Or.inl (own_ne (by omega)))).keep K143q (ninS (own_ne (by omega)) (ninS (own_ne (by omega)) (ninS (own_ne (by omega)) (ninS (own_ne (by omega)) nin0)))))
  obtain ⟨T168, X168, e168, st168⟩ := getF X166 hx hZ hown (host := "") (Or.inl (own_w108 hw)) Via.refl e166 f167 (g := (mkF m 194 #[.val (.ref a_1), .val (.ref a_2), .val (.int 1), .val (.ref b81), .val (.ref b112), .val (.int 1), .val (.int 0), .val (.int 1), .val (.int 0)] [(.ref a_1)])) rfl rfl (hb hby own_d9_194)
  refine own_go (fun _ k => st168 _ k) ?_
  show own_Go _ _ _ _ T168 (mkF m 197 #[.val (.ref a_1), .val (.ref a_2), .val (.int 1), .val (.ref b81), .val (.ref b112), .val (.int 1), .val (.int 0), .val (.int 1), .val (.int 0)] [(.ref x_45)])
  refine own_go (fun _ k => XS.iload X168.here hx rfl (hb hby own_d9_197) rfl k) ?_
  have f169 := (((((f59.ext E81).keep K85q (ninS (own_ne (by omega)) nin0)).ext E112).other W124 (own_ne (by omega))).keep K143q (ninS (own_ne (by omega)) (ninS (own_ne (by omega)) (ninS (own_ne (by omega)) (ninS (own_ne (by omega)) nin0)))))
  obtain ⟨q170, c170, R170, s170, t170⟩ := id f169
  have hin170 : ¬ ((0 : Int32) < 0 ∨ c170.slots.size ≤ ((0 : Int32)).toNatClampNeg) := inb_of s170 ⟨by decide, by decide⟩
  have u170 : c170.slots[((0 : Int32)).toNatClampNeg]? = some (.int 0) := own_at (k := 0) t170 s170 hin170 (by decide) (rfl)
  refine own_go (fun _ k => X168.iaload hx (j := (0 : Int32)) (v := (.int 0)) (by rw [e168]; exact R170.1) (State.isArrayOf_alike hZ.alike R170.2.1) R170.2.2 hin170 u170 (g := (mkF m 199 #[.val (.ref a_1), .val (.ref a_2), .val (.int 1), .val (.ref b81), .val (.ref b112), .val (.int 1), .val (.int 0), .val (.int 1), .val (.int 0)] [(.int 0), (.ref x_45)])) rfl rfl (hb hby own_d9_199) _ k) ?_
  show own_Go _ _ _ _ T168 (mkF m 200 #[.val (.ref a_1), .val (.ref a_2), .val (.int 1), .val (.ref b81), .val (.ref b112), .val (.int 1), .val (.int 0), .val (.int 1), .val (.int 0)] [(.int 0)])
  refine own_go (fun _ k => XS.istore X168.here hx rfl (hb hby own_d9_200) rfl (l' := #[.val (.ref a_1), .val (.ref a_2), .val (.int 1), .val (.ref b81), .val (.ref b112), .val (.int 1), .val (.int 0), .val (.int 0), .val (.int 0)]) rfl (XS.iload X168.here hx rfl (hb hby own_d9_202) rfl (XS.aloadN X168.here hx rfl (hb hby own_d9_204) rfl rfl k))) ?_
  obtain ⟨T171, X171, e171, st171⟩ := getF X168 hx hZ hown (host := "") (Or.inl (own_w108 hw)) Via.refl e168 f167 (g := (mkF m 205 #[.val (.ref a_1), .val (.ref a_2), .val (.int 1), .val (.ref b81), .val (.ref b112), .val (.int 1), .val (.int 0), .val (.int 0), .val (.int 0)] [(.ref a_1), (.int 0)])) rfl rfl (hb hby own_d9_205)
  refine own_go (fun _ k => st171 _ k) ?_
  show own_Go _ _ _ _ T171 (mkF m 208 #[.val (.ref a_1), .val (.ref a_2), .val (.int 1), .val (.ref b81), .val (.ref b112), .val (.int 1), .val (.int 0), .val (.int 0), .val (.int 0)] [(.ref x_45), (.int 0)])
  refine own_go (fun _ k => XS.iload X171.here hx rfl (hb hby own_d9_208) rfl (XS.iconst X171.here hx rfl (hb hby own_d9_210) (XS.iadd X171.here hx rfl (hb hby own_d9_211) rfl k))) ?_
  obtain ⟨q172, c172, R172, s172, t172⟩ := id f169
  have hin172 : ¬ ((1 : Int32) < 0 ∨ c172.slots.size ≤ ((1 : Int32)).toNatClampNeg) := inb_of s172 ⟨by decide, by decide⟩
  have u172 : c172.slots[((1 : Int32)).toNatClampNeg]? = some (.int 1) := own_at (k := 1) t172 s172 hin172 (by decide) (rfl)
  refine own_go (fun _ k => X171.iaload hx (j := (1 : Int32)) (v := (.int 1)) (by rw [e171]; exact R172.1) (State.isArrayOf_alike hZ.alike R172.2.1) R172.2.2 hin172 u172 (g := (mkF m 212 #[.val (.ref a_1), .val (.ref a_2), .val (.int 1), .val (.ref b81), .val (.ref b112), .val (.int 1), .val (.int 0), .val (.int 0), .val (.int 0)] [(.int 1), (.ref x_45), (.int 0)])) rfl rfl (hb hby own_d9_212) _ k) ?_
  show own_Go _ _ _ _ T171 (mkF m 213 #[.val (.ref a_1), .val (.ref a_2), .val (.int 1), .val (.ref b81), .val (.ref b112), .val (.int 1), .val (.int 0), .val (.int 0), .val (.int 0)] [(.int 1), (.int 0)])
  have hc173 : (0 : Int32) < (1 : Int32) := by decide
  refine own_go (fun _ k => XS.icmpNo X171.here hx rfl (hb hby own_d9_213) rfl (Jvm.Free.XT.ii_ge_f hc173) (XS.aloadN X171.here hx rfl (hb hby own_d9_216) rfl rfl k)) ?_
  have f174 := (((((f55.ext E81).keep K85q (ninS (own_ne (by omega)) nin0)).ext E112).other W124 (Or.inl (own_ne (by omega)))).keep K143q (ninS (own_ne (by omega)) (ninS (own_ne (by omega)) (ninS (own_ne (by omega)) (ninS (own_ne (by omega)) nin0)))))
  obtain ⟨T175, X175, e175, st175⟩ := getF X171 hx hZ hown (host := "") (Or.inl (hw _ (List.mem_of_getElem? (i := 21) rfl))) Via.refl e171 f174 (g := (mkF m 217 #[.val (.ref a_1), .val (.ref a_2), .val (.int 1), .val (.ref b81), .val (.ref b112), .val (.int 1), .val (.int 0), .val (.int 0), .val (.int 0)] [(.ref a_1)])) rfl rfl (hb hby own_d9_217)
  refine own_go (fun _ k => st175 _ k) ?_
  show own_Go _ _ _ _ T175 (mkF m 220 #[.val (.ref a_1), .val (.ref a_2), .val (.int 1), .val (.ref b81), .val (.ref b112), .val (.int 1), .val (.int 0), .val (.int 0), .val (.int 0)] [(.ref x_46)])
  refine own_go (fun _ k => XS.iload X175.here hx rfl (hb hby own_d9_220) rfl k) ?_
  have f176 := (((((f60.ext E81).keep K85q (ninS (own_ne (by omega)) nin0)).ext E112).other W124 (own_ne (by omega))).keep K143q (ninS (own_ne (by omega)) (ninS (own_ne (by omega)) (ninS (own_ne (by omega)) (ninS (own_ne (by omega)) nin0)))))
  obtain ⟨q177, c177, R177, s177, t177⟩ := id f176
  have hin177 : ¬ ((0 : Int32) < 0 ∨ c177.slots.size ≤ ((0 : Int32)).toNatClampNeg) := inb_of s177 ⟨by decide, by decide⟩
  have u177 : c177.slots[((0 : Int32)).toNatClampNeg]? = some (.int 0) := own_at (k := 0) t177 s177 hin177 (by decide) (rfl)
  refine own_go (fun _ k => X175.iaload hx (j := (0 : Int32)) (v := (.int 0)) (by rw [e175]; exact R177.1) (State.isArrayOf_alike hZ.alike R177.2.1) R177.2.2 hin177 u177 (g := (mkF m 222 #[.val (.ref a_1), .val (.ref a_2), .val (.int 1), .val (.ref b81), .val (.ref b112), .val (.int 1), .val (.int 0), .val (.int 0), .val (.int 0)] [(.int 0), (.ref x_46)])) rfl rfl (hb hby own_d9_222) _ k) ?_
  show own_Go _ _ _ _ T175 (mkF m 223 #[.val (.ref a_1), .val (.ref a_2), .val (.int 1), .val (.ref b81), .val (.ref b112), .val (.int 1), .val (.int 0), .val (.int 0), .val (.int 0)] [(.int 0)])
  refine own_go (fun _ k => XS.istore X175.here hx rfl (hb hby own_d9_223) rfl (l' := #[.val (.ref a_1), .val (.ref a_2), .val (.int 1), .val (.ref b81), .val (.ref b112), .val (.int 1), .val (.int 0), .val (.int 0), .val (.int 0)]) rfl (XS.aload X175.here hx rfl (hb hby own_d9_225) rfl rfl (XS.iload X175.here hx rfl (hb hby own_d9_227) rfl k))) ?_
  have sd178 : ∀ target, Steps p.tables e below (T175.setTop (mkF m 230 #[.val (.ref a_1), .val (.ref a_2), .val (.int 1), .val (.ref b81), .val (.ref b112), .val (.int 1), .val (.int 0), .val (.int 0), .val (.int 0)] [(.int 0), (.ref b112), (.int 0), (.ref b112)])) target → Steps p.tables e below (T175.setTop (mkF m 229 #[.val (.ref a_1), .val (.ref a_2), .val (.int 1), .val (.ref b81), .val (.ref b112), .val (.int 1), .val (.int 0), .val (.int 0), .val (.int 0)] [(.int 0), (.ref b112)])) target := fun target kk => by
    jvm_step X175.here [X175.here.top, hx, (hb hby own_d9_229), Value.category]
    exact kk
  refine own_go (fun _ k => sd178 _ k) ?_
  show own_Go _ _ _ _ T175 (mkF m 230 #[.val (.ref a_1), .val (.ref a_2), .val (.int 1), .val (.ref b81), .val (.ref b112), .val (.int 1), .val (.int 0), .val (.int 0), .val (.int 0)] [(.int 0), (.ref b112), (.int 0), (.ref b112)])
  have f179 := (V124.keep K143q (ninS (own_ne (by omega)) (ninS (own_ne (by omega)) (ninS (own_ne (by omega)) (ninS (own_ne (by omega)) nin0)))))
  obtain ⟨q180, c180, R180, s180, t180⟩ := id f179
  have hin180 : ¬ ((0 : Int32) < 0 ∨ c180.slots.size ≤ ((0 : Int32)).toNatClampNeg) := inb_of s180 ⟨by decide, by decide⟩
  have u180 : c180.slots[((0 : Int32)).toNatClampNeg]? = some (.int 1) := own_at (k := 0) t180 s180 hin180 (by decide) (rfl)
  refine own_go (fun _ k => X175.iaload hx (j := (0 : Int32)) (v := (.int 1)) (by rw [e175]; exact R180.1) (State.isArrayOf_alike hZ.alike R180.2.1) R180.2.2 hin180 u180 (g := (mkF m 230 #[.val (.ref a_1), .val (.ref a_2), .val (.int 1), .val (.ref b81), .val (.ref b112), .val (.int 1), .val (.int 0), .val (.int 0), .val (.int 0)] [(.int 0), (.ref b112), (.int 0), (.ref b112)])) rfl rfl (hb hby own_d9_230) _ k) ?_
  show own_Go _ _ _ _ T175 (mkF m 231 #[.val (.ref a_1), .val (.ref a_2), .val (.int 1), .val (.ref b81), .val (.ref b112), .val (.int 1), .val (.int 0), .val (.int 0), .val (.int 0)] [(.int 1), (.int 0), (.ref b112)])
  refine own_go (fun _ k => XS.iconst X175.here hx rfl (hb hby own_d9_231) (XS.isub X175.here hx rfl (hb hby own_d9_232) rfl k)) ?_
  obtain ⟨q181, c181, R181, s181, t181⟩ := id f179
  have hin181 : ¬ ((0 : Int32) < 0 ∨ c181.slots.size ≤ ((0 : Int32)).toNatClampNeg) := inb_of s181 ⟨by decide, by decide⟩
  obtain ⟨T182, h182, X182, e182, W182, st182⟩ := stI X175 hx hZ e175 R181 (j := (0 : Int32)) hin181 (g := (mkF m 233 #[.val (.ref a_1), .val (.ref a_2), .val (.int 1), .val (.ref b81), .val (.ref b112), .val (.int 1), .val (.int 0), .val (.int 0), .val (.int 0)] [(.int 0), (.int 0), (.ref b112)])) rfl rfl (hb hby own_d9_233)
  have V182 : own_AV Z h182 b112 .int 1 (own_upd (own_upd (fun _ => (.int 0)) 0 (.int 1)) 0 (.int 0)) := own_AV.set (k := 0) f179 W182 (by decide)
  have z183 := W182.size
  have K182 : Keep h0 h182 [a_1] := K143.wr W182 (Or.inr (by omega))
  have N182 := Fr.snoc X182 N166 (by omega : n0 ≤ b112)
  refine own_go (fun _ k => st182 _ k) ?_
  show own_Go _ _ _ _ T182 (mkF m 234 #[.val (.ref a_1), .val (.ref a_2), .val (.int 1), .val (.ref b81), .val (.ref b112), .val (.int 1), .val (.int 0), .val (.int 0), .val (.int 0)] [])
  refine own_go (fun _ k => XS.aload X182.here hx rfl (hb hby own_d9_234) rfl rfl (XS.iload X182.here hx rfl (hb hby own_d9_236) rfl k)) ?_
  obtain ⟨q184, c184, R184, s184, t184⟩ := id V182
  have hin184 : ¬ ((0 : Int32) < 0 ∨ c184.slots.size ≤ ((0 : Int32)).toNatClampNeg) := inb_of s184 ⟨by decide, by decide⟩
  have u184 : c184.slots[((0 : Int32)).toNatClampNeg]? = some (.int 0) := own_at (k := 0) t184 s184 hin184 (by decide) (rfl)
  refine own_go (fun _ k => X182.iaload hx (j := (0 : Int32)) (v := (.int 0)) (by rw [e182]; exact R184.1) (State.isArrayOf_alike hZ.alike R184.2.1) R184.2.2 hin184 u184 (g := (mkF m 238 #[.val (.ref a_1), .val (.ref a_2), .val (.int 1), .val (.ref b81), .val (.ref b112), .val (.int 1), .val (.int 0), .val (.int 0), .val (.int 0)] [(.int 0), (.ref b112)])) rfl rfl (hb hby own_d9_238) _ k) ?_
  show own_Go _ _ _ _ T182 (mkF m 239 #[.val (.ref a_1), .val (.ref a_2), .val (.int 1), .val (.ref b81), .val (.ref b112), .val (.int 1), .val (.int 0), .val (.int 0), .val (.int 0)] [(.int 0)])
  have hc185 : (0 : Int32) = 0 := by decide
  refine own_go (fun _ k => XS.ifNo X182.here hx rfl (hb hby own_d9_239) rfl (Jvm.Free.XT.i0_ne_f hc185) (XS.aloadN X182.here hx rfl (hb hby own_d9_242) rfl rfl (XS.aloadN X182.here hx rfl (hb hby own_d9_243) rfl rfl k))) ?_
  have f186 := ((((((f53.ext E81).keep K85q (ninS (own_ne (by omega)) nin0)).ext E112).other W124 (Or.inl (own_ne (by omega)))).keep K143q (ninS (own_ne (by omega)) (ninS (own_ne (by omega)) (ninS (own_ne (by omega)) (ninS (own_ne (by omega)) nin0))))).other W182 (Or.inl (own_ne (by omega))))
  obtain ⟨T187, X187, e187, st187⟩ := getF X182 hx hZ hown (host := "") (Or.inl (hw _ (List.mem_of_getElem? (i := 10) rfl))) Via.refl e182 f186 (g := (mkF m 244 #[.val (.ref a_1), .val (.ref a_2), .val (.int 1), .val (.ref b81), .val (.ref b112), .val (.int 1), .val (.int 0), .val (.int 0), .val (.int 0)] [(.ref a_1), (.ref b81)])) rfl rfl (hb hby own_d9_244)
  refine own_go (fun _ k => st187 _ k) ?_
  show own_Go _ _ _ _ T187 (mkF m 247 #[.val (.ref a_1), .val (.ref a_2), .val (.int 1), .val (.ref b81), .val (.ref b112), .val (.int 1), .val (.int 0), .val (.int 0), .val (.int 0)] [(.ref ob0), (.ref b81)])
  refine own_go (fun _ k => XS.iload X187.here hx rfl (hb hby own_d9_247) rfl k) ?_
  have f188 := (((((((f28.keep K42q (ninS (own_ne (by omega)) nin0)).ext E81).keep K85q (ninS (own_ne (by omega)) nin0)).ext E112).other W124 (own_ne (by omega))).keep K143q (ninS (own_ne (by omega)) (ninS (own_ne (by omega)) (ninS (own_ne (by omega)) (ninS (own_ne (by omega)) nin0))))).other W182 (own_ne (by omega)))
  obtain ⟨q189, c189, R189, s189, t189⟩ := id f188
  have hin189 : ¬ ((0 : Int32) < 0 ∨ c189.slots.size ≤ ((0 : Int32)).toNatClampNeg) := inb_of s189 ⟨by decide, by decide⟩
  have u189 : c189.slots[((0 : Int32)).toNatClampNeg]? = some (.int 1) := own_at (k := 0) t189 s189 hin189 (by decide) (rfl)
  refine own_go (fun _ k => X187.iaload hx (j := (0 : Int32)) (v := (.int 1)) (by rw [e187]; exact R189.1) (State.isArrayOf_alike hZ.alike R189.2.1) R189.2.2 hin189 u189 (g := (mkF m 249 #[.val (.ref a_1), .val (.ref a_2), .val (.int 1), .val (.ref b81), .val (.ref b112), .val (.int 1), .val (.int 0), .val (.int 0), .val (.int 0)] [(.int 0), (.ref ob0), (.ref b81)])) rfl rfl (hb hby own_d9_249) _ k) ?_
  show own_Go _ _ _ _ T187 (mkF m 250 #[.val (.ref a_1), .val (.ref a_2), .val (.int 1), .val (.ref b81), .val (.ref b112), .val (.int 1), .val (.int 0), .val (.int 0), .val (.int 0)] [(.int 1), (.ref b81)])
  refine own_go (fun _ k => XS.iload X187.here hx rfl (hb hby own_d9_250) rfl k) ?_
  have f190 := (f144.other W182 (own_ne (by omega)))
  have f191 := (f145.other W182 (own_ne (by omega)))
  have f192 := (f146.other W182 (own_ne (by omega)))
  have f193 := (f147.wr W182)
  have f194 := (f148.other W182 (Or.inl (own_ne (by omega))))
  have f195 := (f149.other W182 (Or.inl (own_ne (by omega))))
  have f196 := (f150.other W182 (Or.inl (own_ne (by omega))))
  have f197 := (f151.other W182 (Or.inl (own_ne (by omega))))
  obtain ⟨cq198, kq198, q198a, q198b, q198c⟩ := isOf hZ e187 f193
  obtain ⟨_, _, ⟨T198, L198, k198, n198⟩, -, X198, ⟨Lc198, hQ198, l198, y198, z198⟩, st198⟩ := X187.virtualBack hx (y := (⟨own_N0, "assign", "(II)V"⟩ : MethodName)) (z := (⟨own_N0, "assign", "(II)V"⟩ : MethodName)) hown (mvT hZ (hw _ (List.mem_of_getElem? (i := 124) rfl))) (mvT hZ (hw _ (List.mem_of_getElem? (i := 125) rfl))) (notFace_of_selects (args := #[]) (mvT hZ (hw _ (List.mem_of_getElem? (i := 127) rfl)))) (mvT hZ (hw _ (List.mem_of_getElem? (i := 127) rfl))) (mvT hZ (hw _ (List.mem_of_getElem? (i := 126) rfl))) (by decide) (backOf (W := 0) (own_rm20_s5 l Z a0 hw [] b81 x_86 x_87 x_88 h182 n0 (by omega) f190 f191 f192 f193 f194 f195 f196 f197 (by simp only [own_lts, and_true]; omega) (by omega) (by omega) (by omega) (by omega)) hZ (hw _ (List.mem_of_getElem? (i := 128) rfl)) (own_w112 hw) (by decide) (by decide)) q198a q198c (g := (mkF m 252 #[.val (.ref a_1), .val (.ref a_2), .val (.int 1), .val (.ref b81), .val (.ref b112), .val (.int 1), .val (.int 0), .val (.int 0), .val (.int 0)] [(.int 0), (.int 1), (.ref b81)])) rfl (by rw [hml]; rfl) (Steps.refl _) (argsL := [(.int 1), (.int 0)]) (rest := []) (lenOf own_pd12 rfl) rfl (by show 2 * 0 + _ ≤ _; exact Nat.le_of_eq rfl) (hb hby own_d9_252) (fun _ _ => ⟨rfl, e187, (by show k166 + _ ≤ _; rw [y166]; decide), (by show n166 + _ ≤ _; rw [z166]; decide)⟩)
  dsimp only [Pt.U, Pt.locs, Pt.cells, Pt.slots] at X198 l198 y198 z198 st198 hQ198
  have y198 : k198 = 17 := own_addeq y198 (congrArg (fun q => q) y166) rfl
  have z198 : n198 = 97 := own_addeq z198 (congrArg (fun q => q) z166) rfl
  obtain ⟨rfl, N198q, K198q, f199, f200, f201, f202, f203, f204, f205, f206⟩ := hQ198
  have N198 : Fr n0 L198 := by rw [l198]; exact Fr.app N182 N198q
  have z207 := K198q.1
  have K198 : Keep h0 T198.heap [a_1] := K182.trans K198q (allS (Or.inr (by omega)) (allS (Or.inr (by omega)) (allS (Or.inr (by omega)) (allS (Or.inr (by omega)) all0))))
  have z208 := own_lt f199.lt
  have z209 := own_lt f200.lt
  have z210 := own_lt f201.lt
  have z211 := own_lt f202.lt
  have z212 := own_lt f203.lt
  have z213 := own_lt f204.lt
  have z214 := own_lt f205.lt
  have z215 := own_lt f206.lt
  refine own_go (fun _ k => st198.trans k) ?_
  show own_Go _ _ _ _ T198 (mkF m 255 #[.val (.ref a_1), .val (.ref a_2), .val (.int 1), .val (.ref b81), .val (.ref b112), .val (.int 1), .val (.int 0), .val (.int 0), .val (.int 0)] [])
  refine own_go (fun _ k => XS.iinc X198.here hx rfl (hb hby own_d9_255) rfl (l' := #[.val (.ref a_1), .val (.ref a_2), .val (.int 1), .val (.ref b81), .val (.ref b112), .val (.int 1), .val (.int 0), .val (.int 1), .val (.int 0)]) rfl (XS.goto X198.here hx rfl (pc0 := 258) (pc' := 202) rfl (hb hby own_d9_258) (by decide) (by decide) (XS.iload X198.here hx rfl (hb hby own_d9_202) rfl (XS.aloadN X198.here hx rfl (hb hby own_d9_204) rfl rfl k)))) ?_
  show own_Go _ _ _ _ T198 (mkF m 205 #[.val (.ref a_1), .val (.ref a_2), .val (.int 1), .val (.ref b81), .val (.ref b112), .val (.int 1), .val (.int 0), .val (.int 1), .val (.int 0)] [(.ref a_1), (.int 1)])
  have f216 := ((f167.other W182 (Or.inl (own_ne (by omega)))).keep K198q (ninS (own_ne (by omega)) (ninS (own_ne (by omega)) (ninS (own_ne (by omega)) (ninS (own_ne (by omega)) nin0)))))
  obtain ⟨T217, X217, e217, st217⟩ := getF X198 hx hZ hown (host := "") (Or.inl (own_w108 hw)) Via.refl rfl f216 (g := (mkF m 205 #[.val (.ref a_1), .val (.ref a_2), .val (.int 1), .val (.ref b81), .val (.ref b112), .val (.int 1), .val (.int 0), .val (.int 1), .val (.int 0)] [(.ref a_1), (.int 1)])) rfl rfl (hb hby own_d9_205)
  refine own_go (fun _ k => st217 _ k) ?_
  show own_Go _ _ _ _ T217 (mkF m 208 #[.val (.ref a_1), .val (.ref a_2), .val (.int 1), .val (.ref b81), .val (.ref b112), .val (.int 1), .val (.int 0), .val (.int 1), .val (.int 0)] [(.ref x_45), (.int 1)])
  refine own_go (fun _ k => XS.iload X217.here hx rfl (hb hby own_d9_208) rfl (XS.iconst X217.here hx rfl (hb hby own_d9_210) (XS.iadd X217.here hx rfl (hb hby own_d9_211) rfl k))) ?_
  have f218 := ((f169.other W182 (own_ne (by omega))).keep K198q (ninS (own_ne (by omega)) (ninS (own_ne (by omega)) (ninS (own_ne (by omega)) (ninS (own_ne (by omega)) nin0)))))
  obtain ⟨q219, c219, R219, s219, t219⟩ := id f218
  have hin219 : ¬ ((1 : Int32) < 0 ∨ c219.slots.size ≤ ((1 : Int32)).toNatClampNeg) := inb_of s219 ⟨by decide, by decide⟩
  have u219 : c219.slots[((1 : Int32)).toNatClampNeg]? = some (.int 1) := own_at (k := 1) t219 s219 hin219 (by decide) (rfl)
  refine own_go (fun _ k => X217.iaload hx (j := (1 : Int32)) (v := (.int 1)) (by rw [e217]; exact R219.1) (State.isArrayOf_alike hZ.alike R219.2.1) R219.2.2 hin219 u219 (g := (mkF m 212 #[.val (.ref a_1), .val (.ref a_2), .val (.int 1), .val (.ref b81), .val (.ref b112), .val (.int 1), .val (.int 0), .val (.int 1), .val (.int 0)] [(.int 1), (.ref x_45), (.int 1)])) rfl rfl (hb hby own_d9_212) _ k) ?_
  show own_Go _ _ _ _ T217 (mkF m 213 #[.val (.ref a_1), .val (.ref a_2), .val (.int 1), .val (.ref b81), .val (.ref b112), .val (.int 1), .val (.int 0), .val (.int 1), .val (.int 0)] [(.int 1), (.int 1)])
  have hc220 : ¬ ((1 : Int32) < (1 : Int32)) := by decide
  refine own_go (fun _ k => XS.icmpYes X217.here hx rfl (pc0 := 213) (pc' := 261) rfl (hb hby own_d9_213) rfl (Jvm.Free.XT.ii_ge_t hc220) (by decide) (by decide) (XS.goto X217.here hx rfl (pc0 := 261) (pc' := 165) rfl (hb hby own_d9_261) (by decide) (by decide) (XS.aloadN X217.here hx rfl (hb hby own_d9_165) rfl rfl (XS.iloadN X217.here hx rfl (hb hby own_d9_166) rfl k)))) ?_
  show own_Go _ _ _ _ T217 (mkF m 167 #[.val (.ref a_1), .val (.ref a_2), .val (.int 1), .val (.ref b81), .val (.ref b112), .val (.int 1), .val (.int 0), .val (.int 1), .val (.int 0)] [(.int 1), (.ref b81)])
  obtain ⟨cq221, kq221, q221a, q221b, q221c⟩ := isOf hZ e217 f202
  obtain ⟨_, _, ⟨T221, L221, k221, n221⟩, -, X221, ⟨Lc221, hQ221, l221, y221, z221⟩, st221⟩ := X217.virtualBack hx (y := (⟨own_N0, "isTrue", "(I)Z"⟩ : MethodName)) (z := (⟨own_N0, "isTrue", "(I)Z"⟩ : MethodName)) hown (mvT hZ (hw _ (List.mem_of_getElem? (i := 131) rfl))) (mvT hZ (hw _ (List.mem_of_getElem? (i := 132) rfl))) (notFace_of_selects (args := #[]) (mvT hZ (own_w134 hw))) (mvT hZ (own_w134 hw)) (mvT hZ (hw _ (List.mem_of_getElem? (i := 133) rfl))) (by decide) (backOf (W := 0) (own_rm21_s5 l Z a0 hw [] b81 x_88 T198.heap n0 (by omega) f199 f206 (by simp only [own_lts, and_true]; omega)) hZ (hw _ (List.mem_of_getElem? (i := 135) rfl)) (own_w112 hw) (by decide) (by decide)) q221a q221c (g := (mkF m 167 #[.val (.ref a_1), .val (.ref a_2), .val (.int 1), .val (.ref b81), .val (.ref b112), .val (.int 1), .val (.int 0), .val (.int 1), .val (.int 0)] [(.int 1), (.ref b81)])) rfl (by rw [hml]; rfl) (Steps.refl _) (argsL := [(.int 1)]) (rest := []) (lenOf own_pd13 rfl) rfl (by show 2 * 0 + _ ≤ _; exact Nat.le_of_eq rfl) (hb hby own_d9_167) (fun _ _ => ⟨rfl, e217, (by show k198 + _ ≤ _; rw [y198]; decide), (by show n198 + _ ≤ _; rw [z198]; decide)⟩)
  dsimp only [Pt.U, Pt.locs, Pt.cells, Pt.slots] at X221 l221 y221 z221 st221 hQ221
  have y221 : k221 = 17 := own_addeq y221 (congrArg (fun q => q) y198) rfl
  have z221 : n221 = 97 := own_addeq z221 (congrArg (fun q => q) z198) rfl
  obtain ⟨rfl, N221q, e221⟩ := hQ221
  have N221 : Fr n0 L221 := by rw [l221]; exact Fr.app N198 N221q
  refine own_go (fun _ k => st221.trans k) ?_
  show own_Go _ _ _ _ T221 (mkF m 170 #[.val (.ref a_1), .val (.ref a_2), .val (.int 1), .val (.ref b81), .val (.ref b112), .val (.int 1), .val (.int 0), .val (.int 1), .val (.int 0)] [(.int 1)])
  have hc222 : ¬ ((1 : Int32) = 0) := by decide
  refine own_go (fun _ k => XS.ifYes X221.here hx rfl (pc0 := 170) (pc' := 264) rfl (hb hby own_d9_170) rfl (Jvm.Free.XT.i0_ne_t hc222) (by decide) (by decide) (XS.aloadN X221.here hx rfl (hb hby own_d9_264) rfl rfl k)) ?_
  show own_Go _ _ _ _ T221 (mkF m 265 #[.val (.ref a_1), .val (.ref a_2), .val (.int 1), .val (.ref b81), .val (.ref b112), .val (.int 1), .val (.int 0), .val (.int 1), .val (.int 0)] [(.ref b81)])
  obtain ⟨fs, hr, hrun, hended, hRW⟩ := X221.leaveW hS24 (by rw [e221]; omega) (v := some (.ref b81)) (fun h => by rw [Bd.returns] at h; cases h)
  refine ⟨_, _, retOut X221 hx Bd.returns rfl (Or.inr (Or.inr (Or.inr (Or.inr ⟨rfl, rfl, rfl⟩)))) (hb hby own_d9_265) hr, hrun, hended, _, _, rfl, ?_, own_monoW hRW (by rw [y221]; decide) (by rw [z221]; decide)⟩
  show own_Q9_s3 Z a_1 a_2 g_lam ob2 ob1 ob0 u_0 u_1 u_2 h0 n0 _ T221.heap _
  rw [e221]
  have f224 := (((((((f47.ext E81).keep K85q).ext E112).wr W124).keep K143q).wr W182).keep K198q)
  have f225 := (((((((f48.ext E81).keep K85q (ninS (own_ne (by omega)) nin0)).ext E112).other W124 (Or.inl (own_ne (by omega)))).keep K143q (ninS (own_ne (by omega)) (ninS (own_ne (by omega)) (ninS (own_ne (by omega)) (ninS (own_ne (by omega)) nin0))))).other W182 (Or.inl (own_ne (by omega)))).keep K198q (ninS (own_ne (by omega)) (ninS (own_ne (by omega)) (ninS (own_ne (by omega)) (ninS (own_ne (by omega)) nin0)))))
  have f226 := ((((f117.other W124 (Or.inl (own_ne (by omega)))).keep K143q (ninS (own_ne (by omega)) (ninS (own_ne (by omega)) (ninS (own_ne (by omega)) (ninS (own_ne (by omega)) nin0))))).other W182 (Or.inl (own_ne (by omega)))).keep K198q (ninS (own_ne (by omega)) (ninS (own_ne (by omega)) (ninS (own_ne (by omega)) (ninS (own_ne (by omega)) nin0)))))
  have f227 := (((f128.keep K143q (ninS (own_ne (by omega)) (ninS (own_ne (by omega)) (ninS (own_ne (by omega)) (ninS (own_ne (by omega)) nin0))))).other W182 (Or.inl (own_ne (by omega)))).keep K198q (ninS (own_ne (by omega)) (ninS (own_ne (by omega)) (ninS (own_ne (by omega)) (ninS (own_ne (by omega)) nin0)))))
  have f228 := (((((((f51.ext E81).keep K85q (ninS (own_ne (by omega)) nin0)).ext E112).other W124 (Or.inl (own_ne (by omega)))).keep K143q (ninS (own_ne (by omega)) (ninS (own_ne (by omega)) (ninS (own_ne (by omega)) (ninS (own_ne (by omega)) nin0))))).other W182 (Or.inl (own_ne (by omega)))).keep K198q (ninS (own_ne (by omega)) (ninS (own_ne (by omega)) (ninS (own_ne (by omega)) (ninS (own_ne (by omega)) nin0)))))
  have f229 := (((((((f52.ext E81).keep K85q (ninS (own_ne (by omega)) nin0)).ext E112).other W124 (Or.inl (own_ne (by omega)))).keep K143q (ninS (own_ne (by omega)) (ninS (own_ne (by omega)) (ninS (own_ne (by omega)) (ninS (own_ne (by omega)) nin0))))).other W182 (Or.inl (own_ne (by omega)))).keep K198q (ninS (own_ne (by omega)) (ninS (own_ne (by omega)) (ninS (own_ne (by omega)) (ninS (own_ne (by omega)) nin0)))))
  have f230 := (f186.keep K198q (ninS (own_ne (by omega)) (ninS (own_ne (by omega)) (ninS (own_ne (by omega)) (ninS (own_ne (by omega)) nin0)))))
  have f231 := ((f174.other W182 (Or.inl (own_ne (by omega)))).keep K198q (ninS (own_ne (by omega)) (ninS (own_ne (by omega)) (ninS (own_ne (by omega)) (ninS (own_ne (by omega)) nin0)))))
  have f232 := ((((((f83.keep K85q (ninS (own_ne (by omega)) nin0)).ext E112).other W124 (Or.inl (own_ne (by omega)))).keep K143q (ninS (own_ne (by omega)) (ninS (own_ne (by omega)) (ninS (own_ne (by omega)) (ninS (own_ne (by omega)) nin0))))).other W182 (Or.inl (own_ne (by omega)))).keep K198q (ninS (own_ne (by omega)) (ninS (own_ne (by omega)) (ninS (own_ne (by omega)) (ninS (own_ne (by omega)) nin0)))))
  have f233 := (((((((f57.ext E81).keep K85q (ninS (own_ne (by omega)) nin0)).ext E112).other W124 (own_ne (by omega))).keep K143q (ninS (own_ne (by omega)) (ninS (own_ne (by omega)) (ninS (own_ne (by omega)) (ninS (own_ne (by omega)) nin0))))).other W182 (own_ne (by omega))).keep K198q (ninS (own_ne (by omega)) (ninS (own_ne (by omega)) (ninS (own_ne (by omega)) (ninS (own_ne (by omega)) nin0)))))
  have f234 := (((((((f58.ext E81).keep K85q (ninS (own_ne (by omega)) nin0)).ext E112).other W124 (own_ne (by omega))).keep K143q (ninS (own_ne (by omega)) (ninS (own_ne (by omega)) (ninS (own_ne (by omega)) (ninS (own_ne (by omega)) nin0))))).other W182 (own_ne (by omega))).keep K198q (ninS (own_ne (by omega)) (ninS (own_ne (by omega)) (ninS (own_ne (by omega)) (ninS (own_ne (by omega)) nin0)))))
  have f235 := ((f176.other W182 (own_ne (by omega))).keep K198q (ninS (own_ne (by omega)) (ninS (own_ne (by omega)) (ninS (own_ne (by omega)) (ninS (own_ne (by omega)) nin0)))))
  exact ⟨b81, x_43, x_44, x_45, x_46, x_86, x_87, x_88, rfl, N221, K198, f224, f225, f226, f227, f228, f229, f230, f216, f231, f232, f202, f203, f204, f205, f206, f233, f234, f218, f235, f201, f200, f199, (by omega), (by omega), (by omega), (by omega), (by omega), (by omega), (by omega), (by omega), (by simp only [own_lts, and_true]; omega)⟩
theorem own_ef_own_rm8_s3 (m : MethodId) (x0 : Addr) (x1 : Addr) : entryFrame m #[(.ref x0), (.ref x1), (.int 1)] 3 = mkF m 0 #[.val (.ref x0), .val (.ref x1), .val (.int 1)] [] := by first | (simp [entryFrame, mkF, argsToLocals, Value.category]; done) | rfl
def own_Q8_s3 (Z : State) (a_1 : Addr) (a_2 : Addr) (g_lam : Addr) (ob2 : Addr) (ob1 : Addr) (ob0 : Addr) (u_0 : Value) (u_1 : Value) (u_2 : Value) (h0 : Heap) (n0 : Nat) (v : Option Value) (h : Heap) (L : List Loc) : Prop := ∃ (x_0 : Addr) (x_1 : Addr) (x_2 : Addr) (x_3 : Addr), v = some (.int 1) ∧ Fr n0 L ∧ Keep h0 h [a_1] ∧ Exa Z h a_1 own_N1 ∧ Fld Z h a_1 own_N1 "bodies" "[I" (.ref ob2) ∧ Fld Z h a_1 own_N1 "bodyStarts" "[I" (.ref ob1) ∧ Fld Z h a_1 own_N1 "clauseCount" "I" (.int 1) ∧ Fld Z h a_1 own_N1 "derivationStarts" "[I" (.ref x_0) ∧ Fld Z h a_1 own_N1 "derivations" "[I" (.ref x_1) ∧ Fld Z h a_1 own_N1 "heads" "[I" (.ref ob0) ∧ Fld Z h a_1 own_N1 "occurrenceStarts" "[I" (.ref x_2) ∧ Fld Z h a_1 own_N1 "occurrences" "[I" (.ref x_3) ∧ Fld Z h a_1 own_N1 "variableCount" "I" (.int 2) ∧ own_AV Z h x_0 .int 3 (own_upd (own_upd (own_upd (fun _ => (.int 0)) 2 (.int 1)) 1 (.int 0)) 2 (.int 1)) ∧ own_AV Z h x_1 .int 1 (own_upd (fun _ => (.int 0)) 0 (.int 0)) ∧ own_AV Z h x_2 .int 3 (own_upd (own_upd (own_upd (fun _ => (.int 0)) 1 (.int 1)) 1 (.int 1)) 2 (.int 1)) ∧ own_AV Z h x_3 .int 1 (own_upd (fun _ => (.int 0)) 0 (.int 0)) ∧ (h0.size ≤ x_0) ∧ (h0.size ≤ x_1) ∧ (h0.size ≤ x_2) ∧ (h0.size ≤ x_3) ∧ (own_lts [x_2, x_3, x_0, x_1])
set_option maxRecDepth 65536 in
set_option maxHeartbeats 40000000 in
theorem own_rm8_s3 (l : Launch) (Z : State) (a0 : Array Value) (hw : ∀ d ∈ tables_1, d.before a0 Z = true) (ws : List Jvm.Cond) (a_1 : Addr) (a_2 : Addr) (g_lam : Addr) (ob2 : Addr) (ob1 : Addr) (ob0 : Addr) (u_0 : Value) (u_1 : Value) (u_2 : Value) (h0 : Heap) (n0 : Nat) (Z0 : n0 ≤ h0.size) (pr_A_a_2 : own_AV Z h0 a_2 .int 1 (own_upd (fun _ => (.int 0)) 0 (.int 0))) (pr_A_ob0 : own_AV Z h0 ob0 .int 64 (own_upd (fun _ => (.int 0)) 0 (.int 1))) (pr_A_ob1 : own_AV Z h0 ob1 .int 65 (own_upd (fun _ => (.int 0)) 1 (.int 1))) (pr_A_ob2 : own_AV Z h0 ob2 .int 64 (own_upd (fun _ => (.int 0)) 0 (.int 0))) (pr_E_a_1 : Exa Z h0 a_1 own_N1) (pr_F_a_1_bodies : Fld Z h0 a_1 own_N1 "bodies" "[I" (.ref ob2)) (pr_F_a_1_bodyStarts : Fld Z h0 a_1 own_N1 "bodyStarts" "[I" (.ref ob1)) (pr_F_a_1_clauseCount : Fld Z h0 a_1 own_N1 "clauseCount" "I" (.int 1)) (pr_F_a_1_derivationStarts : Fld Z h0 a_1 own_N1 "derivationStarts" "[I" u_0) (pr_F_a_1_derivations : Fld Z h0 a_1 own_N1 "derivations" "[I" u_1) (pr_F_a_1_heads : Fld Z h0 a_1 own_N1 "heads" "[I" (.ref ob0)) (pr_F_a_1_occurrenceStarts : Fld Z h0 a_1 own_N1 "occurrenceStarts" "[I" u_2) (pr_F_a_1_occurrences : Fld Z h0 a_1 own_N1 "occurrences" "[I" .null) (pr_F_a_1_variableCount : Fld Z h0 a_1 own_N1 "variableCount" "I" (.int 2)) (pr_M_g_lam : own_LM Z h0 g_lam) (ho_ : own_lts [a_1, ob0, ob1, ob2, a_2]) (ho_g : own_lts [g_lam, n0]) (gw_a_1 : n0 ≤ a_1) :
    MetFree l (⟨own_N1, "implies", "([II)Z"⟩ : MethodName) (head1 (Jvm.Cond.code (⟨own_N1, "implies", "([II)Z"⟩ : MethodName) prog_6_method_8_code 3 (some .boolean) :: ws) ({ frames := 5, cells := 17, slots := 97, locals := 3137 } : Room)) (fun a U => a = #[(.ref a_1), (.ref a_2), (.int 1)] ∧ Z.Warmed39 U.vm ∧ U.heap = h0) (fun _ _ _ _ _ => True) (fun _ U o U' => ∃ v L, o = .returned v ∧ own_Q8_s3 Z a_1 a_2 g_lam ob2 ob1 ob0 u_0 u_1 u_2 h0 n0 v U'.heap L ∧ ReturnedEndW U o U' L ({ frames := 5, cells := 17, slots := 97, locals := 3137 } : Room).cells ({ frames := 5, cells := 17, slots := 97, locals := 3137 } : Room).slots) := by
  refine MetFree.of_bodySF (plainFor_of_name own_pn0) hisR ?_
  intro p e s m args below meth c s₁ Bd hml0 hP hK
  obtain ⟨rfl, hZ, hh⟩ := hP
  have hx := Bd.exec
  have hby := Bd.bytes
  have hml : c.maxLocals = 3 := hml0
  have hown : s.vm.findClass own_N1 = some m.cls := findClass_of_methodNamed Bd.named
  have hnm := (name_of_methodNamed Bd.named Bd.method).1
  have X0 : Stand p l e ({ frames := 5, cells := 17, slots := 97, locals := 3137 } : Room) s m #[(.ref a_1), (.ref a_2), (.int 1)] below meth c s₁ [] 0 0 := Stand.of_body Bd
  have e0 : s₁.heap = h0 := by rw [← hh, Bd.state]; rfl
  have N0 := Fr.nil n0
  have X0 : Stand p l e ({ frames := 5, cells := 17, slots := 97, locals := 3137 } : Room) (s.setVm s.vm) m #[(.ref a_1), (.ref a_2), (.int 1)] below meth c s₁ [] 0 0 := X0
  have hZ : Z.Warmed39 (s.setVm s.vm).vm := hZ
  have hown : (s.setVm s.vm).vm.findClass own_N1 = some m.cls := hown
  have hS0 : s.Since s.vm 0 := (State.WarmedH.refl s).since 0
  have z0 : n0 ≤ h0.size := Z0
  have z1 := own_lt pr_A_a_2.lt
  have z2 := own_lt pr_A_ob0.lt
  have z3 := own_lt pr_A_ob1.lt
  have z4 := own_lt pr_A_ob2.lt
  have z5 := own_lt pr_E_a_1.lt
  have z6 := own_lt pr_F_a_1_bodies.lt
  have z7 := own_lt pr_F_a_1_bodyStarts.lt
  have z8 := own_lt pr_F_a_1_clauseCount.lt
  have z9 := own_lt pr_F_a_1_derivationStarts.lt
  have z10 := own_lt pr_F_a_1_derivations.lt
  have z11 := own_lt pr_F_a_1_heads.lt
  have z12 := own_lt pr_F_a_1_occurrenceStarts.lt
  have z13 := own_lt pr_F_a_1_occurrences.lt
  have z14 := own_lt pr_F_a_1_variableCount.lt
  have ho15 := ho_
  simp only [own_lts, and_true] at ho15
  have ho16 := ho_g
  simp only [own_lts, and_true] at ho16
  have K0 : Keep h0 h0 [a_1] := Keep.refl h0 _
  show own_Go p.tables e below (fun t o => t.status = .running ∧ Ended t below o ∧ ∃ v L, o = .returned v ∧ own_Q8_s3 Z a_1 a_2 g_lam ob2 ob1 ob0 u_0 u_1 u_2 h0 n0 v t.heap L ∧ ReturnedEndW s o t L ({ frames := 5, cells := 17, slots := 97, locals := 3137 } : Room).cells ({ frames := 5, cells := 17, slots := 97, locals := 3137 } : Room).slots) s₁ (entryFrame m #[(.ref a_1), (.ref a_2), (.int 1)] 3)
  rw [own_ef_own_rm8_s3 m a_1 a_2]
  show own_Go _ _ _ _ s₁ (mkF m 0 #[.val (.ref a_1), .val (.ref a_2), .val (.int 1)] [])
  refine own_go (fun _ k => XS.aloadN X0.here hx rfl (hb hby own_d8_0) rfl rfl (XS.aloadN X0.here hx rfl (hb hby own_d8_1) rfl rfl (XS.iloadN X0.here hx rfl (hb hby own_d8_2) rfl k))) ?_
  obtain ⟨cq17, q17, q17'⟩ := (id pr_E_a_1).cell
  obtain ⟨_, _, ⟨T17, L17, k17, n17⟩, -, X17, hS17, gr17, ⟨Lc17, hQ17, l17, y17, z17⟩, st17⟩ := X0.privateBackS hx (y := (⟨own_N1, "propagate", "([II)Lcom/example/kalchas/kalchas/propositional/HornClauses$Trail;"⟩ : MethodName)) hown (mvT hZ (hw _ (List.mem_of_getElem? (i := 62) rfl))) (mvT hZ (hw _ (List.mem_of_getElem? (i := 63) rfl))) (own_selfsel hZ (own_w1 hw) (hw _ (List.mem_of_getElem? (i := 63) rfl)) (hw _ (List.mem_of_getElem? (i := 64) rfl)) (by decide)) (Cond.privateMethod_at (mvP hZ (hw _ (List.mem_of_getElem? (i := 64) rfl)) (args := #[]))) (mvT hZ (hw _ (List.mem_of_getElem? (i := 65) rfl))) (by decide) (backOfS (W := 0) (own_rm9_s3 l Z a0 hw [] a_1 a_2 g_lam ob2 ob1 ob0 u_0 u_1 u_2 h0 n0 (by omega) pr_A_a_2 pr_A_ob0 pr_A_ob1 pr_A_ob2 pr_E_a_1 pr_F_a_1_bodies pr_F_a_1_bodyStarts pr_F_a_1_clauseCount pr_F_a_1_derivationStarts pr_F_a_1_derivations pr_F_a_1_heads pr_F_a_1_occurrenceStarts pr_F_a_1_occurrences pr_F_a_1_variableCount pr_M_g_lam (by simp only [own_lts, and_true]; omega) (by simp only [own_lts, and_true]; omega) (by omega)) hZ (hw _ (List.mem_of_getElem? (i := 65) rfl)) (own_w2 hw) (by decide) (by decide)) (g := (mkF m 3 #[.val (.ref a_1), .val (.ref a_2), .val (.int 1)] [(.int 1), (.ref a_2), (.ref a_1)])) rfl (by rw [hml]; rfl) (Steps.refl _) (a := a_1) (by rw [e0]; exact q17) q17' (argsL := [(.ref a_2), (.int 1)]) (rest := []) (lenOf own_pd15 rfl) rfl (by show 2 * 0 + _ ≤ _; exact Nat.le_of_eq rfl) (hb hby own_d8_3) (fun _ _ => ⟨rfl, e0, (by decide : 0 + 17 ≤ _), (by decide : 0 + 97 ≤ _)⟩)
  dsimp only [Pt.U, Pt.locs, Pt.cells, Pt.slots] at X17 l17 y17 z17 st17 hQ17 hS17 gr17
  have y17 : k17 = 17 := y17
  have z17 : n17 = 97 := z17
  have Wn17 := hS17.1
  obtain ⟨X17, hS17, hZ, hown⟩ := rebS hS0 (n1 := s₁.heap.size) (by rw [e0]; omega) X17 hS17 gr17 hZ hown
  obtain ⟨x_18, x_19, x_20, x_21, x_22, x_23, x_24, x_25, rfl, N17q, K17q, f26, f27, f28, f29, f30, f31, f32, f33, f34, f35, f36, f37, f38, f39, f40, f41, f42, f43, f44, f45, f46, f47, f48, f49, f50, f51, f52, f53, f54, f55, f56⟩ := hQ17
  have N17 : Fr n0 L17 := by rw [l17]; exact Fr.app N0 N17q
  have z57 := K17q.1
  have K17 : Keep h0 T17.heap [a_1] := K0.trans K17q (allS (Or.inl (List.mem_of_getElem? (i := 0) rfl)) all0)
  have z58 := own_lt f26.lt
  have z59 := own_lt f27.lt
  have z60 := own_lt f28.lt
  have z61 := own_lt f29.lt
  have z62 := own_lt f30.lt
  have z63 := own_lt f31.lt
  have z64 := own_lt f32.lt
  have z65 := own_lt f33.lt
  have z66 := own_lt f34.lt
  have z67 := own_lt f35.lt
  have z68 := own_lt f36.lt
  have z69 := own_lt f37.lt
  have z70 := own_lt f38.lt
  have z71 := own_lt f39.lt
  have z72 := own_lt f40.lt
  have z73 := own_lt f41.lt
  have z74 := own_lt f42.lt
  have z75 := own_lt f43.lt
  have z76 := own_lt f44.lt
  have z77 := own_lt f45.lt
  have z78 := own_lt f46.lt
  have z79 := own_lt f47.lt
  simp only [own_lts, and_true] at f56
  refine own_go (fun _ k => st17.trans k) ?_
  show own_Go _ _ _ _ T17 (mkF m 6 #[.val (.ref a_1), .val (.ref a_2), .val (.int 1)] [(.ref x_18)])
  refine own_go (fun _ k => XS.iloadN X17.here hx rfl (hb hby own_d8_6) rfl k) ?_
  obtain ⟨cq80, kq80, q80a, q80b, q80c⟩ := isOf hZ rfl f36
  obtain ⟨_, _, ⟨T80, L80, k80, n80⟩, -, X80, ⟨Lc80, hQ80, l80, y80, z80⟩, st80⟩ := X17.virtualBack hx (y := (⟨own_N0, "isTrue", "(I)Z"⟩ : MethodName)) (z := (⟨own_N0, "isTrue", "(I)Z"⟩ : MethodName)) hown (mvT hZ (hw _ (List.mem_of_getElem? (i := 131) rfl))) (mvT hZ (hw _ (List.mem_of_getElem? (i := 132) rfl))) (notFace_of_selects (args := #[]) (mvT hZ (own_w134 hw))) (mvT hZ (own_w134 hw)) (mvT hZ (hw _ (List.mem_of_getElem? (i := 133) rfl))) (by decide) (backOf (W := 0) (own_rm21_s5 l Z a0 hw [] x_18 x_25 T17.heap n0 (by omega) f47 f40 (by simp only [own_lts, and_true]; omega)) hZ (hw _ (List.mem_of_getElem? (i := 135) rfl)) (own_w112 hw) (by decide) (by decide)) q80a q80c (g := (mkF m 7 #[.val (.ref a_1), .val (.ref a_2), .val (.int 1)] [(.int 1), (.ref x_18)])) rfl (by rw [hml]; rfl) (Steps.refl _) (argsL := [(.int 1)]) (rest := []) (lenOf own_pd13 rfl) rfl (by show 2 * 0 + _ ≤ _; exact Nat.le_of_eq rfl) (hb hby own_d8_7) (fun _ _ => ⟨rfl, rfl, (by show k17 + _ ≤ _; rw [y17]; decide), (by show n17 + _ ≤ _; rw [z17]; decide)⟩)
  dsimp only [Pt.U, Pt.locs, Pt.cells, Pt.slots] at X80 l80 y80 z80 st80 hQ80
  have y80 : k80 = 17 := own_addeq y80 (congrArg (fun q => q) y17) rfl
  have z80 : n80 = 97 := own_addeq z80 (congrArg (fun q => q) z17) rfl
  obtain ⟨rfl, N80q, e80⟩ := hQ80
  have N80 : Fr n0 L80 := by rw [l80]; exact Fr.app N17 N80q
  refine own_go (fun _ k => st80.trans k) ?_
  show own_Go _ _ _ _ T80 (mkF m 10 #[.val (.ref a_1), .val (.ref a_2), .val (.int 1)] [(.int 1)])
  obtain ⟨fs, hr, hrun, hended, hRW⟩ := X80.leaveW hS17 (by rw [e80]; omega) (v := some (.int 1)) (fun h => by rw [Bd.returns] at h; cases h)
  refine ⟨_, _, retOut X80 hx Bd.returns rfl (Or.inl ⟨rfl, Or.inr (Or.inl rfl), _, rfl⟩) (hb hby own_d8_10) hr, hrun, hended, _, _, rfl, ?_, own_monoW hRW (by rw [y80]; decide) (by rw [z80]; decide)⟩
  show own_Q8_s3 Z a_1 a_2 g_lam ob2 ob1 ob0 u_0 u_1 u_2 h0 n0 _ T80.heap _
  rw [e80]
  exact ⟨x_19, x_20, x_21, x_22, rfl, N80, K17, f26, f27, f28, f29, f30, f31, f32, f33, f34, f35, f41, f42, f43, f44, (by omega), (by omega), (by omega), (by omega), (by simp only [own_lts, and_true]; omega)⟩
theorem own_ef_own_rm0 (m : MethodId) (x0 : Int32) : entryFrame m #[(.int x0)] maxLocals = mkF m 0 #[.val (.int x0), .unset, .unset, .unset, .unset, .unset, .unset, .unset, .unset, .unset] [] := by first | (simp [entryFrame, mkF, argsToLocals, Value.category, maxLocals]; done) | rfl
def own_Q0 (Z : State) (p_1 : Int32) (g_lam : Addr) (h0 : Heap) (n0 : Nat) (v : Option Value) (h : Heap) (L : List Loc) : Prop := v = some (.int 1) ∧ Fr n0 L
set_option maxRecDepth 65536 in
set_option maxHeartbeats 40000000 in
theorem own_rm0 (l : Launch) (Z : State) (a0 : Array Value) (hw : ∀ d ∈ tables_1, d.before a0 Z = true) (ws : List Jvm.Cond) (p_1 : Int32) (g_lam : Addr) (h0 : Heap) (n0 : Nat) (Z0 : n0 ≤ h0.size) (pr_M_g_lam : own_LM Z h0 g_lam) (ho_g : own_lts [g_lam, n0]) :
    MetFree l x (head1 (Jvm.Cond.code x code maxLocals ret :: ws) room_1) (fun a U => a = #[(.int p_1)] ∧ Z.Warmed39 U.vm ∧ U.heap = h0) (fun _ _ _ _ _ => True) (fun _ U o U' => ∃ v L, o = .returned v ∧ own_Q0 Z p_1 g_lam h0 n0 v U'.heap L ∧ ReturnedEndW U o U' L 55 565) := by
  refine MetFree.of_bodySF (plainFor_of_name own_pn4) hisR ?_
  intro p e s m args below meth c s₁ Bd hml0 hP hK
  obtain ⟨rfl, hZ, hh⟩ := hP
  have hx := Bd.exec
  have hby := Bd.bytes
  have hml : c.maxLocals = 10 := hml0
  have hown : s.vm.findClass own_N2 = some m.cls := findClass_of_methodNamed Bd.named
  have hnm := (name_of_methodNamed Bd.named Bd.method).1
  have X0 : Stand p l e room_1 s m #[(.int p_1)] below meth c s₁ [] 0 0 := Stand.of_body Bd
  have e0 : s₁.heap = h0 := by rw [← hh, Bd.state]; rfl
  have N0 := Fr.nil n0
  have X0 : Stand p l e room_1 (s.setVm s.vm) m #[(.int p_1)] below meth c s₁ [] 0 0 := X0
  have hZ : Z.Warmed39 (s.setVm s.vm).vm := hZ
  have hown : (s.setVm s.vm).vm.findClass own_N2 = some m.cls := hown
  have hS0 : s.Since s.vm 0 := (State.WarmedH.refl s).since 0
  have z0 : n0 ≤ h0.size := Z0
  have ho1 := ho_g
  simp only [own_lts, and_true] at ho1
  have K0 : Keep h0 h0 [] := Keep.refl h0 _
  show own_Go p.tables e below (fun t o => t.status = .running ∧ Ended t below o ∧ ∃ v L, o = .returned v ∧ own_Q0 Z p_1 g_lam h0 n0 v t.heap L ∧ ReturnedEndW s o t L 55 565) s₁ (entryFrame m #[(.int p_1)] maxLocals)
  rw [own_ef_own_rm0 m p_1]
  show own_Go _ _ _ _ s₁ (mkF m 0 #[.val (.int p_1), .unset, .unset, .unset, .unset, .unset, .unset, .unset, .unset, .unset] [])
  refine own_go (fun _ k => XS.iloadN X0.here hx rfl (hb hby at_0) rfl (XS.iconst X0.here hx rfl (hb hby at_1) (XS.iand X0.here hx rfl (hb hby at_2) rfl k))) ?_
  by_cases hc2 : (p_1 &&& (1 : Int32)) = 0
  · refine own_go (fun _ k => XS.ifYes X0.here hx rfl (pc0 := 3) (pc' := 10) rfl (hb hby at_3) rfl (Jvm.Free.XT.i0_eq_t hc2) (by decide) (by decide) (XS.iconst X0.here hx rfl (hb hby at_10) (XS.istoreN X0.here hx rfl (hb hby at_11) rfl (l' := #[.val (.int p_1), .val (.int 0), .unset, .unset, .unset, .unset, .unset, .unset, .unset, .unset]) rfl k))) ?_
    obtain ⟨T3, h3, X3, e3, E3, A3, D3, Y3, st3⟩ := newO X0 hx hZ hown (own_w0 hw) (own_w1 hw) (own_w2 hw) e0 (g := (mkF m 12 #[.val (.int p_1), .val (.int 0), .unset, .unset, .unset, .unset, .unset, .unset, .unset, .unset] [])) rfl (hb hby at_12) (by decide) (by decide)
    obtain ⟨b3, g3⟩ : ∃ z, z = h0.size := ⟨_, rfl⟩
    rw [← g3] at A3 D3 Y3 st3
    have z4 := E3.1
    have lt_b3 := own_lt A3.lt
    have K3 : Keep h0 h3 [] := K0.ext E3
    have F_heads_b3 : Fld Z h3 b3 own_N1 "heads" "[I" .null := D3 (Or.inl (own_w11 hw)) (ty := (.array .int)) (by decide)
    have F_bodyStarts_b3 : Fld Z h3 b3 own_N1 "bodyStarts" "[I" .null := D3 (Or.inl (own_w13 hw)) (ty := (.array .int)) (by decide)
    have F_bodies_b3 : Fld Z h3 b3 own_N1 "bodies" "[I" .null := D3 (Or.inl (own_w15 hw)) (ty := (.array .int)) (by decide)
    have F_occurrences_b3 : Fld Z h3 b3 own_N1 "occurrences" "[I" .null := D3 (Or.inl (own_w22 hw)) (ty := (.array .int)) (by decide)
    have F_variableCount_b3 : Fld Z h3 b3 own_N1 "variableCount" "I" (.int 0) := D3 (Or.inl (own_w24 hw)) (ty := .int) (by decide)
    have F_clauseCount_b3 : Fld Z h3 b3 own_N1 "clauseCount" "I" (.int 0) := D3 (Or.inl (own_w47 hw)) (ty := .int) (by decide)
    have F_derivationStarts_b3 : Fld Z h3 b3 own_N1 "derivationStarts" "[I" .null := D3 (Or.inl (own_w105 hw)) (ty := (.array .int)) (by decide)
    have F_derivations_b3 : Fld Z h3 b3 own_N1 "derivations" "[I" .null := D3 (Or.inl (own_w107 hw)) (ty := (.array .int)) (by decide)
    have F_occurrenceStarts_b3 : Fld Z h3 b3 own_N1 "occurrenceStarts" "[I" .null := D3 (Or.inl (own_w109 hw)) (ty := (.array .int)) (by decide)
    refine own_go (fun _ k => st3 _ k) ?_
    show own_Go _ _ _ _ T3 (mkF m 15 #[.val (.int p_1), .val (.int 0), .unset, .unset, .unset, .unset, .unset, .unset, .unset, .unset] [(.ref b3)])
    refine own_go (fun _ k => XS.dup X3.here hx rfl (hb hby at_15) rfl rfl k) ?_
    obtain ⟨_, _, ⟨T5, L5, k5, n5⟩, -, X5, ⟨Lc5, hQ5, l5, y5, z5⟩, st5⟩ := X3.specialBack hx (y := (⟨own_N1, "<init>", "()V"⟩ : MethodName)) rfl hown (mvT hZ (hw _ (List.mem_of_getElem? (i := 3) rfl))) (mvT hZ (hw _ (List.mem_of_getElem? (i := 4) rfl))) (mvT hZ (hw _ (List.mem_of_getElem? (i := 5) rfl))) (by decide) (backOf (W := 1) (own_rm1_s1 l Z a0 hw [] b3 .null .null .null .null (.int 0) (.int 0) .null .null .null h3 n0 (by omega) A3 F_bodies_b3 F_bodyStarts_b3 F_clauseCount_b3 F_derivationStarts_b3 F_derivations_b3 F_heads_b3 F_occurrenceStarts_b3 F_occurrences_b3 F_variableCount_b3 (by omega)) hZ (hw _ (List.mem_of_getElem? (i := 5) rfl)) (own_w2 hw) (by decide) (by decide)) (g := (mkF m 16 #[.val (.int p_1), .val (.int 0), .unset, .unset, .unset, .unset, .unset, .unset, .unset, .unset] [(.ref b3), (.ref b3)])) rfl (by rw [hml]; rfl) (Steps.refl _) (a := b3) (argsL := []) (rest := [(.ref b3)]) (lenOf own_pd1 rfl) rfl (by show 2 * 0 + _ ≤ _; exact Nat.le_of_eq rfl) (hb hby at_16) (fun _ _ => ⟨rfl, e3, (by decide : 1 + 3 ≤ _), (by decide : 9 + 193 ≤ _)⟩)
    dsimp only [Pt.U, Pt.locs, Pt.cells, Pt.slots] at X5 l5 y5 z5 st5 hQ5
    have y5 : k5 = 4 := y5
    have z5 : n5 = 202 := z5
    obtain ⟨x_6, x_7, x_8, rfl, N5q, K5q, f9, f10, f11, f12, f13, f14, f15, f16, f17, f18, f19, f20, f21, f22, f23, f24, f25⟩ := hQ5
    have N5 : Fr n0 L5 := by rw [l5]; exact Fr.app N0 N5q
    have z26 := K5q.1
    have K5 : Keep h0 T5.heap [] := K3.trans K5q (allS (Or.inr (by omega)) all0)
    have z27 := own_lt f9.lt
    have z28 := own_lt f10.lt
    have z29 := own_lt f11.lt
    have z30 := own_lt f12.lt
    have z31 := own_lt f13.lt
    have z32 := own_lt f14.lt
    have z33 := own_lt f15.lt
    have z34 := own_lt f16.lt
    have z35 := own_lt f17.lt
    have z36 := own_lt f18.lt
    have z37 := own_lt f19.lt
    have z38 := own_lt f20.lt
    have z39 := own_lt f21.lt
    simp only [own_lts, and_true] at f25
    refine own_go (fun _ k => st5.trans k) ?_
    show own_Go _ _ _ _ T5 (mkF m 19 #[.val (.int p_1), .val (.int 0), .unset, .unset, .unset, .unset, .unset, .unset, .unset, .unset] [(.ref b3)])
    refine own_go (fun _ k => XS.astoreN X5.here hx rfl (hb hby at_19) rfl rfl (l' := #[.val (.int p_1), .val (.int 0), .val (.ref b3), .unset, .unset, .unset, .unset, .unset, .unset, .unset]) rfl (XS.aloadN X5.here hx rfl (hb hby at_20) rfl rfl k)) ?_
    obtain ⟨cq40, kq40, q40a, q40b, q40c⟩ := isOf hZ rfl f9
    obtain ⟨_, _, ⟨T40, L40, k40, n40⟩, -, X40, ⟨Lc40, hQ40, l40, y40, z40⟩, st40⟩ := X5.virtualBack hx (y := (⟨own_N1, "newVariable", "()I"⟩ : MethodName)) (z := (⟨own_N1, "newVariable", "()I"⟩ : MethodName)) hown (mvT hZ (hw _ (List.mem_of_getElem? (i := 16) rfl))) (mvT hZ (hw _ (List.mem_of_getElem? (i := 17) rfl))) (notFace_of_selects (args := #[]) (mvT hZ (hw _ (List.mem_of_getElem? (i := 19) rfl)))) (mvT hZ (hw _ (List.mem_of_getElem? (i := 19) rfl))) (mvT hZ (hw _ (List.mem_of_getElem? (i := 18) rfl))) (by decide) (backOf (W := 0) (own_rm3 l Z a0 hw [] b3 (.ref x_8) (.ref x_7) (.ref x_6) .null (0 : Int32) (0 : Int32) .null .null .null T5.heap n0 (by omega) f9 f15 f11 f10 f17 f18 f12 f13 f14 f16 (by omega)) hZ (hw _ (List.mem_of_getElem? (i := 20) rfl)) (own_w2 hw) (by decide) (by decide)) q40a q40c (g := (mkF m 21 #[.val (.int p_1), .val (.int 0), .val (.ref b3), .unset, .unset, .unset, .unset, .unset, .unset, .unset] [(.ref b3)])) rfl (by rw [hml]; rfl) (Steps.refl _) (argsL := []) (rest := []) (lenOf own_pd2 rfl) rfl (by show 2 * 0 + _ ≤ _; exact Nat.le_of_eq rfl) (hb hby at_21) (fun _ _ => ⟨rfl, rfl, (by show k5 + _ ≤ _; rw [y5]; decide), (by show n5 + _ ≤ _; rw [z5]; decide)⟩)
    dsimp only [Pt.U, Pt.locs, Pt.cells, Pt.slots] at X40 l40 y40 z40 st40 hQ40
    have y40 : k40 = 4 := own_addeq y40 (congrArg (fun q => q) y5) rfl
    have z40 : n40 = 202 := own_addeq z40 (congrArg (fun q => q) z5) rfl
    obtain ⟨rfl, N40q, K40q, f41, f42, f43, f44, f45, f46, f47, f48, f49, f50⟩ := hQ40
    have N40 : Fr n0 L40 := by rw [l40]; exact Fr.app N5 N40q
    have z51 := K40q.1
    have K40 : Keep h0 T40.heap [] := K5.trans K40q (allS (Or.inr (by omega)) all0)
    have z52 := own_lt f41.lt
    have z53 := own_lt f42.lt
    have z54 := own_lt f43.lt
    have z55 := own_lt f44.lt
    have z56 := own_lt f45.lt
    have f46 : Fld Z T40.heap b3 own_N1 "variableCount" "I" (.int 1) := f46
    have z57 := own_lt f46.lt
    have z58 := own_lt f47.lt
    have z59 := own_lt f48.lt
    have z60 := own_lt f49.lt
    have z61 := own_lt f50.lt
    refine own_go (fun _ k => st40.trans k) ?_
    show own_Go _ _ _ _ T40 (mkF m 24 #[.val (.int p_1), .val (.int 0), .val (.ref b3), .unset, .unset, .unset, .unset, .unset, .unset, .unset] [(.int 0)])
    refine own_go (fun _ k => XS.istoreN X40.here hx rfl (hb hby at_24) rfl (l' := #[.val (.int p_1), .val (.int 0), .val (.ref b3), .val (.int 0), .unset, .unset, .unset, .unset, .unset, .unset]) rfl (XS.aloadN X40.here hx rfl (hb hby at_25) rfl rfl k)) ?_
    obtain ⟨cq62, kq62, q62a, q62b, q62c⟩ := isOf hZ rfl f41
    obtain ⟨_, _, ⟨T62, L62, k62, n62⟩, -, X62, ⟨Lc62, hQ62, l62, y62, z62⟩, st62⟩ := X40.virtualBack hx (y := (⟨own_N1, "newVariable", "()I"⟩ : MethodName)) (z := (⟨own_N1, "newVariable", "()I"⟩ : MethodName)) hown (mvT hZ (hw _ (List.mem_of_getElem? (i := 16) rfl))) (mvT hZ (hw _ (List.mem_of_getElem? (i := 17) rfl))) (notFace_of_selects (args := #[]) (mvT hZ (hw _ (List.mem_of_getElem? (i := 19) rfl)))) (mvT hZ (hw _ (List.mem_of_getElem? (i := 19) rfl))) (mvT hZ (hw _ (List.mem_of_getElem? (i := 18) rfl))) (by decide) (backOf (W := 0) (own_rm3 l Z a0 hw [] b3 (.ref x_8) (.ref x_7) (.ref x_6) .null (1 : Int32) (0 : Int32) .null .null .null T40.heap n0 (by omega) f41 f42 f43 f44 f45 f46 f47 f48 f49 f50 (by omega)) hZ (hw _ (List.mem_of_getElem? (i := 20) rfl)) (own_w2 hw) (by decide) (by decide)) q62a q62c (g := (mkF m 26 #[.val (.int p_1), .val (.int 0), .val (.ref b3), .val (.int 0), .unset, .unset, .unset, .unset, .unset, .unset] [(.ref b3)])) rfl (by rw [hml]; rfl) (Steps.refl _) (argsL := []) (rest := []) (lenOf own_pd2 rfl) rfl (by show 2 * 0 + _ ≤ _; exact Nat.le_of_eq rfl) (hb hby at_26) (fun _ _ => ⟨rfl, rfl, (by show k40 + _ ≤ _; rw [y40]; decide), (by show n40 + _ ≤ _; rw [z40]; decide)⟩)
    dsimp only [Pt.U, Pt.locs, Pt.cells, Pt.slots] at X62 l62 y62 z62 st62 hQ62
    have y62 : k62 = 4 := own_addeq y62 (congrArg (fun q => q) y40) rfl
    have z62 : n62 = 202 := own_addeq z62 (congrArg (fun q => q) z40) rfl
    obtain ⟨rfl, N62q, K62q, f63, f64, f65, f66, f67, f68, f69, f70, f71, f72⟩ := hQ62
    have N62 : Fr n0 L62 := by rw [l62]; exact Fr.app N40 N62q
    have z73 := K62q.1
    have K62 : Keep h0 T62.heap [] := K40.trans K62q (allS (Or.inr (by omega)) all0)
    have z74 := own_lt f63.lt
    have z75 := own_lt f64.lt
    have z76 := own_lt f65.lt
    have z77 := own_lt f66.lt
    have z78 := own_lt f67.lt
    have f68 : Fld Z T62.heap b3 own_N1 "variableCount" "I" (.int 2) := f68
    have z79 := own_lt f68.lt
    have z80 := own_lt f69.lt
    have z81 := own_lt f70.lt
    have z82 := own_lt f71.lt
    have z83 := own_lt f72.lt
    refine own_go (fun _ k => st62.trans k) ?_
    show own_Go _ _ _ _ T62 (mkF m 29 #[.val (.int p_1), .val (.int 0), .val (.ref b3), .val (.int 0), .unset, .unset, .unset, .unset, .unset, .unset] [(.int 1)])
    refine own_go (fun _ k => XS.istore X62.here hx rfl (hb hby at_29) rfl (l' := #[.val (.int p_1), .val (.int 0), .val (.ref b3), .val (.int 0), .val (.int 1), .unset, .unset, .unset, .unset, .unset]) rfl (XS.aloadN X62.here hx rfl (hb hby at_31) rfl rfl (XS.iload X62.here hx rfl (hb hby at_32) rfl (XS.iconst X62.here hx rfl (hb hby at_34) k)))) ?_
    show own_Go _ _ _ _ T62 (mkF m 35 #[.val (.int p_1), .val (.int 0), .val (.ref b3), .val (.int 0), .val (.int 1), .unset, .unset, .unset, .unset, .unset] [(.int 1), (.int 1), (.ref b3)])
    obtain ⟨T84, h84, k84, X84, e84, E84, A84, st84⟩ := newP X62 hx hZ (hw _ (List.mem_of_getElem? (i := 9) rfl)) rfl (g := (mkF m 35 #[.val (.int p_1), .val (.int 0), .val (.ref b3), .val (.int 0), .val (.int 1), .unset, .unset, .unset, .unset, .unset] [(.int 1), (.int 1), (.ref b3)])) rfl (hb hby at_35) rfl (by decide) (cap := 1) (by decide) (by decide) (by rw [y62]; decide) (by rw [z62]; decide)
    obtain ⟨b84, g84⟩ : ∃ z, z = T62.heap.size := ⟨_, rfl⟩
    rw [← g84] at A84 st84
    have z85 := E84.1
    have lt_b84 := own_lt A84.lt
    have K84 : Keep h0 h84 [] := K62.ext E84
    have V_b84 : own_AV Z h84 b84 .int 1 (fun _ => (.int 0)) := own_AV.new A84 (by decide)
    refine own_go (fun _ k => st84 _ k) ?_
    show own_Go _ _ _ _ T84 (mkF m 37 #[.val (.int p_1), .val (.int 0), .val (.ref b3), .val (.int 0), .val (.int 1), .unset, .unset, .unset, .unset, .unset] [(.ref b84), (.int 1), (.ref b3)])
    refine own_go (fun _ k => XS.dup X84.here hx rfl (hb hby at_37) rfl rfl (XS.iconst X84.here hx rfl (hb hby at_38) (XS.iloadN X84.here hx rfl (hb hby at_39) rfl k))) ?_
    obtain ⟨q86, c86, R86, s86, t86⟩ := id V_b84
    have hin86 : ¬ ((0 : Int32) < 0 ∨ c86.slots.size ≤ ((0 : Int32)).toNatClampNeg) := inb_of s86 ⟨by decide, by decide⟩
    obtain ⟨T87, h87, X87, e87, W87, st87⟩ := stI X84 hx hZ e84 R86 (j := (0 : Int32)) hin86 (g := (mkF m 40 #[.val (.int p_1), .val (.int 0), .val (.ref b3), .val (.int 0), .val (.int 1), .unset, .unset, .unset, .unset, .unset] [(.int 0), (.int 0), (.ref b84), (.ref b84), (.int 1), (.ref b3)])) rfl rfl (hb hby at_40)
    have V87 : own_AV Z h87 b84 .int 1 (own_upd (fun _ => (.int 0)) 0 (.int 0)) := own_AV.set (k := 0) V_b84 W87 (by decide)
    have z88 := W87.size
    have K87 : Keep h0 h87 [] := K84.wr W87 (Or.inr (by omega))
    have N87 := Fr.snoc X87 N62 (by omega : n0 ≤ b84)
    refine own_go (fun _ k => st87 _ k) ?_
    show own_Go _ _ _ _ T87 (mkF m 41 #[.val (.int p_1), .val (.int 0), .val (.ref b3), .val (.int 0), .val (.int 1), .unset, .unset, .unset, .unset, .unset] [(.ref b84), (.int 1), (.ref b3)])
    have f89 := ((((f21.keep K40q (ninS (own_ne (by omega)) nin0)).keep K62q (ninS (own_ne (by omega)) nin0)).ext E84).other W87 (own_ne (by omega)))
    have f90 := ((((f20.keep K40q (ninS (own_ne (by omega)) nin0)).keep K62q (ninS (own_ne (by omega)) nin0)).ext E84).other W87 (own_ne (by omega)))
    have f91 := ((((f19.keep K40q (ninS (own_ne (by omega)) nin0)).keep K62q (ninS (own_ne (by omega)) nin0)).ext E84).other W87 (own_ne (by omega)))
    have f92 := ((f63.ext E84).wr W87)
    have f93 := ((f66.ext E84).other W87 (Or.inl (own_ne (by omega))))
    have f94 := ((f65.ext E84).other W87 (Or.inl (own_ne (by omega))))
    have f95 := ((f69.ext E84).other W87 (Or.inl (own_ne (by omega))))
    have f96 := ((f70.ext E84).other W87 (Or.inl (own_ne (by omega))))
    have f97 := ((f71.ext E84).other W87 (Or.inl (own_ne (by omega))))
    have f98 := ((f64.ext E84).other W87 (Or.inl (own_ne (by omega))))
    have f99 := ((f72.ext E84).other W87 (Or.inl (own_ne (by omega))))
    have f100 := ((f67.ext E84).other W87 (Or.inl (own_ne (by omega))))
    have f101 := ((f68.ext E84).other W87 (Or.inl (own_ne (by omega))))
    obtain ⟨cq102, kq102, q102a, q102b, q102c⟩ := isOf hZ e87 f92
    obtain ⟨_, _, ⟨T102, L102, k102, n102⟩, -, X102, hS102, gr102, ⟨Lc102, hQ102, l102, y102, z102⟩, st102⟩ := X87.virtualBackS hx (y := (⟨own_N1, "add", "(I[I)V"⟩ : MethodName)) (z := (⟨own_N1, "add", "(I[I)V"⟩ : MethodName)) hown (mvT hZ (hw _ (List.mem_of_getElem? (i := 25) rfl))) (mvT hZ (hw _ (List.mem_of_getElem? (i := 26) rfl))) (notFace_of_selects (args := #[]) (mvT hZ (hw _ (List.mem_of_getElem? (i := 28) rfl)))) (mvT hZ (hw _ (List.mem_of_getElem? (i := 28) rfl))) (mvT hZ (hw _ (List.mem_of_getElem? (i := 27) rfl))) (by decide) (backOfS (W := 0) (own_rm4_s1 l Z a0 hw [] b3 b84 x_8 x_7 x_6 .null .null .null .null h87 n0 (by omega) V87 f89 f90 f91 f92 f93 f94 f95 f96 f97 f98 f99 f100 f101 (by simp only [own_lts, and_true]; omega) (by omega) (by omega) (by omega) (by omega)) hZ (hw _ (List.mem_of_getElem? (i := 29) rfl)) (own_w2 hw) (by decide) (by decide)) q102a q102c (g := (mkF m 41 #[.val (.int p_1), .val (.int 0), .val (.ref b3), .val (.int 0), .val (.int 1), .unset, .unset, .unset, .unset, .unset] [(.ref b84), (.int 1), (.ref b3)])) rfl (by rw [hml]; rfl) (Steps.refl _) (argsL := [(.int 1), (.ref b84)]) (rest := []) (lenOf own_pd4 rfl) rfl (by show 2 * 0 + _ ≤ _; exact Nat.le_of_eq rfl) (hb hby at_41) (fun _ _ => ⟨rfl, e87, (by show k62 + 1 + _ ≤ _; rw [y62]; decide), (by show n62 + 1 + _ ≤ _; rw [z62]; decide)⟩)
    dsimp only [Pt.U, Pt.locs, Pt.cells, Pt.slots] at X102 l102 y102 z102 st102 hQ102 hS102 gr102
    have y102 : k102 = 9 := own_addeq y102 (congrArg (fun q => q + 1) y62) rfl
    have z102 : n102 = 275 := own_addeq z102 (congrArg (fun q => q + 1) z62) rfl
    have Wn102 := hS102.1
    obtain ⟨X102, hS102, hZ, hown⟩ := rebS hS0 (n1 := T87.heap.size) (by rw [e87]; omega) X102 hS102 gr102 hZ hown
    obtain ⟨rfl, N102q, K102q, f103, f104, f105, f106, f107, f108, f109, f110, f111, f112, f113, f114, f115⟩ := hQ102
    have N102 : Fr n0 L102 := by rw [l102]; exact Fr.app N87 N102q
    have z116 := K102q.1
    have K102 : Keep h0 T102.heap [] := K87.trans K102q (allS (Or.inr (by omega)) (allS (Or.inr (by omega)) (allS (Or.inr (by omega)) (allS (Or.inr (by omega)) all0))))
    have z117 := own_lt f103.lt
    have z118 := own_lt f104.lt
    have z119 := own_lt f105.lt
    have z120 := own_lt f106.lt
    have z121 := own_lt f107.lt
    have z122 := own_lt f108.lt
    have z123 := own_lt f109.lt
    have z124 := own_lt f110.lt
    have z125 := own_lt f111.lt
    have z126 := own_lt f112.lt
    have z127 := own_lt f113.lt
    have z128 := own_lt f114.lt
    have z129 := own_lt f115.lt
    refine own_go (fun _ k => st102.trans k) ?_
    show own_Go _ _ _ _ T102 (mkF m 44 #[.val (.int p_1), .val (.int 0), .val (.ref b3), .val (.int 0), .val (.int 1), .unset, .unset, .unset, .unset, .unset] [])
    refine own_go (fun _ k => XS.iconst X102.here hx rfl (hb hby at_44) (XS.istore X102.here hx rfl (hb hby at_45) rfl (l' := #[.val (.int p_1), .val (.int 0), .val (.ref b3), .val (.int 0), .val (.int 1), .val (.int 1), .unset, .unset, .unset, .unset]) rfl (XS.iloadN X102.here hx rfl (hb hby at_47) rfl k))) ?_
    have hc130 : (0 : Int32) = 0 := by decide
    refine own_go (fun _ k => XS.ifYes X102.here hx rfl (pc0 := 48) (pc' := 66) rfl (hb hby at_48) rfl (Jvm.Free.XT.i0_eq_t hc130) (by decide) (by decide) (XS.aloadN X102.here hx rfl (hb hby at_66) rfl rfl k)) ?_
    obtain ⟨cq131, kq131, q131a, q131b, q131c⟩ := isOf hZ rfl f106
    obtain ⟨_, _, ⟨T131, L131, k131, n131⟩, -, X131, ⟨Lc131, hQ131, l131, y131, z131⟩, st131⟩ := X102.virtualBack hx (y := (⟨own_N1, "newVariable", "()I"⟩ : MethodName)) (z := (⟨own_N1, "newVariable", "()I"⟩ : MethodName)) hown (mvT hZ (hw _ (List.mem_of_getElem? (i := 16) rfl))) (mvT hZ (hw _ (List.mem_of_getElem? (i := 17) rfl))) (notFace_of_selects (args := #[]) (mvT hZ (hw _ (List.mem_of_getElem? (i := 19) rfl)))) (mvT hZ (hw _ (List.mem_of_getElem? (i := 19) rfl))) (mvT hZ (hw _ (List.mem_of_getElem? (i := 18) rfl))) (by decide) (backOf (W := 0) (own_rm3 l Z a0 hw [] b3 (.ref x_8) (.ref x_7) (.ref x_6) .null (2 : Int32) (1 : Int32) .null .null .null T102.heap n0 (by omega) f106 f112 f108 f107 f114 f115 f109 f110 f111 f113 (by omega)) hZ (hw _ (List.mem_of_getElem? (i := 20) rfl)) (own_w2 hw) (by decide) (by decide)) q131a q131c (g := (mkF m 67 #[.val (.int p_1), .val (.int 0), .val (.ref b3), .val (.int 0), .val (.int 1), .val (.int 1), .unset, .unset, .unset, .unset] [(.ref b3)])) rfl (by rw [hml]; rfl) (Steps.refl _) (argsL := []) (rest := []) (lenOf own_pd2 rfl) rfl (by show 2 * 0 + _ ≤ _; exact Nat.le_of_eq rfl) (hb hby at_67) (fun _ _ => ⟨rfl, rfl, (by show k102 + _ ≤ _; rw [y102]; decide), (by show n102 + _ ≤ _; rw [z102]; decide)⟩)
    dsimp only [Pt.U, Pt.locs, Pt.cells, Pt.slots] at X131 l131 y131 z131 st131 hQ131
    have y131 : k131 = 9 := own_addeq y131 (congrArg (fun q => q) y102) rfl
    have z131 : n131 = 275 := own_addeq z131 (congrArg (fun q => q) z102) rfl
    obtain ⟨rfl, N131q, K131q, f132, f133, f134, f135, f136, f137, f138, f139, f140, f141⟩ := hQ131
    have N131 : Fr n0 L131 := by rw [l131]; exact Fr.app N102 N131q
    have z142 := K131q.1
    have K131 : Keep h0 T131.heap [] := K102.trans K131q (allS (Or.inr (by omega)) all0)
    have z143 := own_lt f132.lt
    have z144 := own_lt f133.lt
    have z145 := own_lt f134.lt
    have z146 := own_lt f135.lt
    have z147 := own_lt f136.lt
    have f137 : Fld Z T131.heap b3 own_N1 "variableCount" "I" (.int 3) := f137
    have z148 := own_lt f137.lt
    have z149 := own_lt f138.lt
    have z150 := own_lt f139.lt
    have z151 := own_lt f140.lt
    have z152 := own_lt f141.lt
    refine own_go (fun _ k => st131.trans k) ?_
    show own_Go _ _ _ _ T131 (mkF m 70 #[.val (.int p_1), .val (.int 0), .val (.ref b3), .val (.int 0), .val (.int 1), .val (.int 1), .unset, .unset, .unset, .unset] [(.int 2)])
    refine own_go (fun _ k => XS.istore X131.here hx rfl (hb hby at_70) rfl (l' := #[.val (.int p_1), .val (.int 0), .val (.ref b3), .val (.int 0), .val (.int 1), .val (.int 1), .val (.int 2), .unset, .unset, .unset]) rfl (XS.aloadN X131.here hx rfl (hb hby at_72) rfl rfl k)) ?_
    obtain ⟨cq153, kq153, q153a, q153b, q153c⟩ := isOf hZ rfl f132
    obtain ⟨_, _, ⟨T153, L153, k153, n153⟩, -, X153, ⟨Lc153, hQ153, l153, y153, z153⟩, st153⟩ := X131.virtualBack hx (y := (⟨own_N1, "variableCount", "()I"⟩ : MethodName)) (z := (⟨own_N1, "variableCount", "()I"⟩ : MethodName)) hown (mvT hZ (hw _ (List.mem_of_getElem? (i := 52) rfl))) (mvT hZ (hw _ (List.mem_of_getElem? (i := 53) rfl))) (notFace_of_selects (args := #[]) (mvT hZ (hw _ (List.mem_of_getElem? (i := 55) rfl)))) (mvT hZ (hw _ (List.mem_of_getElem? (i := 55) rfl))) (mvT hZ (hw _ (List.mem_of_getElem? (i := 54) rfl))) (by decide) (backOf (W := 0) (own_rm7_s1 l Z a0 hw [] b3  T131.heap n0 (by omega) f137) hZ (hw _ (List.mem_of_getElem? (i := 56) rfl)) (own_w2 hw) (by decide) (by decide)) q153a q153c (g := (mkF m 73 #[.val (.int p_1), .val (.int 0), .val (.ref b3), .val (.int 0), .val (.int 1), .val (.int 1), .val (.int 2), .unset, .unset, .unset] [(.ref b3)])) rfl (by rw [hml]; rfl) (Steps.refl _) (argsL := []) (rest := []) (lenOf own_pd2 rfl) rfl (by show 2 * 0 + _ ≤ _; exact Nat.le_of_eq rfl) (hb hby at_73) (fun _ _ => ⟨rfl, rfl, (by show k131 + _ ≤ _; rw [y131]; decide), (by show n131 + _ ≤ _; rw [z131]; decide)⟩)
    dsimp only [Pt.U, Pt.locs, Pt.cells, Pt.slots] at X153 l153 y153 z153 st153 hQ153
    have y153 : k153 = 9 := own_addeq y153 (congrArg (fun q => q) y131) rfl
    have z153 : n153 = 275 := own_addeq z153 (congrArg (fun q => q) z131) rfl
    obtain ⟨rfl, N153q, e153⟩ := hQ153
    have N153 : Fr n0 L153 := by rw [l153]; exact Fr.app N131 N153q
    refine own_go (fun _ k => st153.trans k) ?_
    show own_Go _ _ _ _ T153 (mkF m 76 #[.val (.int p_1), .val (.int 0), .val (.ref b3), .val (.int 0), .val (.int 1), .val (.int 1), .val (.int 2), .unset, .unset, .unset] [(.int 3)])
    refine own_go (fun _ k => XS.istore X153.here hx rfl (hb hby at_76) rfl (l' := #[.val (.int p_1), .val (.int 0), .val (.ref b3), .val (.int 0), .val (.int 1), .val (.int 1), .val (.int 2), .val (.int 3), .unset, .unset]) rfl (XS.aloadN X153.here hx rfl (hb hby at_78) rfl rfl (XS.iconst X153.here hx rfl (hb hby at_79) k))) ?_
    obtain ⟨T154, h154, k154, X154, e154, E154, A154, st154⟩ := newP X153 hx hZ (hw _ (List.mem_of_getElem? (i := 9) rfl)) e153 (g := (mkF m 80 #[.val (.int p_1), .val (.int 0), .val (.ref b3), .val (.int 0), .val (.int 1), .val (.int 1), .val (.int 2), .val (.int 3), .unset, .unset] [(.int 1), (.ref b3)])) rfl (hb hby at_80) rfl (by decide) (cap := 1) (by decide) (by decide) (by rw [y153]; decide) (by rw [z153]; decide)
    obtain ⟨b154, g154⟩ : ∃ z, z = T131.heap.size := ⟨_, rfl⟩
    rw [← g154] at A154 st154
    have z155 := E154.1
    have lt_b154 := own_lt A154.lt
    have K154 : Keep h0 h154 [] := K131.ext E154
    have V_b154 : own_AV Z h154 b154 .int 1 (fun _ => (.int 0)) := own_AV.new A154 (by decide)
    refine own_go (fun _ k => st154 _ k) ?_
    show own_Go _ _ _ _ T154 (mkF m 82 #[.val (.int p_1), .val (.int 0), .val (.ref b3), .val (.int 0), .val (.int 1), .val (.int 1), .val (.int 2), .val (.int 3), .unset, .unset] [(.ref b154), (.ref b3)])
    refine own_go (fun _ k => XS.dup X154.here hx rfl (hb hby at_82) rfl rfl (XS.iconst X154.here hx rfl (hb hby at_83) (XS.iload X154.here hx rfl (hb hby at_84) rfl k))) ?_
    obtain ⟨q156, c156, R156, s156, t156⟩ := id V_b154
    have hin156 : ¬ ((0 : Int32) < 0 ∨ c156.slots.size ≤ ((0 : Int32)).toNatClampNeg) := inb_of s156 ⟨by decide, by decide⟩
    obtain ⟨T157, h157, X157, e157, W157, st157⟩ := stI X154 hx hZ e154 R156 (j := (0 : Int32)) hin156 (g := (mkF m 86 #[.val (.int p_1), .val (.int 0), .val (.ref b3), .val (.int 0), .val (.int 1), .val (.int 1), .val (.int 2), .val (.int 3), .unset, .unset] [(.int 2), (.int 0), (.ref b154), (.ref b154), (.ref b3)])) rfl rfl (hb hby at_86)
    have V157 : own_AV Z h157 b154 .int 1 (own_upd (fun _ => (.int 0)) 0 (.int 2)) := own_AV.set (k := 0) V_b154 W157 (by decide)
    have z158 := W157.size
    have K157 : Keep h0 h157 [] := K154.wr W157 (Or.inr (by omega))
    have N157 := Fr.snoc X157 N153 (by omega : n0 ≤ b154)
    refine own_go (fun _ k => st157 _ k) ?_
    show own_Go _ _ _ _ T157 (mkF m 87 #[.val (.int p_1), .val (.int 0), .val (.ref b3), .val (.int 0), .val (.int 1), .val (.int 1), .val (.int 2), .val (.int 3), .unset, .unset] [(.ref b154), (.ref b3)])
    refine own_go (fun _ k => XS.iload X157.here hx rfl (hb hby at_87) rfl k) ?_
    have f159 := (((f104.keep K131q (ninS (own_ne (by omega)) nin0)).ext E154).other W157 (own_ne (by omega)))
    have f160 := (((f105.keep K131q (ninS (own_ne (by omega)) nin0)).ext E154).other W157 (own_ne (by omega)))
    have f161 := (((f103.keep K131q (ninS (own_ne (by omega)) nin0)).ext E154).other W157 (own_ne (by omega)))
    have f162 := ((f132.ext E154).wr W157)
    have f163 := ((f135.ext E154).other W157 (Or.inl (own_ne (by omega))))
    have f164 := ((f134.ext E154).other W157 (Or.inl (own_ne (by omega))))
    have f165 := ((f138.ext E154).other W157 (Or.inl (own_ne (by omega))))
    have f166 := ((f139.ext E154).other W157 (Or.inl (own_ne (by omega))))
    have f167 := ((f140.ext E154).other W157 (Or.inl (own_ne (by omega))))
    have f168 := ((f133.ext E154).other W157 (Or.inl (own_ne (by omega))))
    have f169 := ((f141.ext E154).other W157 (Or.inl (own_ne (by omega))))
    have f170 := ((f136.ext E154).other W157 (Or.inl (own_ne (by omega))))
    have f171 := ((f137.ext E154).other W157 (Or.inl (own_ne (by omega))))
    have f172 := ((((((((((pr_M_g_lam.ext E3).keep K5q).keep K40q).keep K62q).ext E84).wr W87).keep K102q).keep K131q).ext E154).wr W157)
    obtain ⟨cq173, kq173, q173a, q173b, q173c⟩ := isOf hZ e157 f162
    obtain ⟨_, _, ⟨T173, L173, k173, n173⟩, -, X173, hS173, gr173, ⟨Lc173, hQ173, l173, y173, z173⟩, st173⟩ := X157.virtualBackS hx (y := (⟨own_N1, "implies", "([II)Z"⟩ : MethodName)) (z := (⟨own_N1, "implies", "([II)Z"⟩ : MethodName)) hown (mvT hZ (hw _ (List.mem_of_getElem? (i := 57) rfl))) (mvT hZ (hw _ (List.mem_of_getElem? (i := 58) rfl))) (notFace_of_selects (args := #[]) (mvT hZ (hw _ (List.mem_of_getElem? (i := 60) rfl)))) (mvT hZ (hw _ (List.mem_of_getElem? (i := 60) rfl))) (mvT hZ (hw _ (List.mem_of_getElem? (i := 59) rfl))) (by decide) (backOfS (W := 0) (own_rm8_s1 l Z a0 hw [] b3 b154 g_lam x_8 x_7 x_6 .null .null .null h157 n0 (by omega) V157 f159 f160 f161 f162 f163 f164 f165 f166 f167 f168 f169 f170 f171 f172 (by simp only [own_lts, and_true]; omega) (by simp only [own_lts, and_true]; omega) (by omega)) hZ (hw _ (List.mem_of_getElem? (i := 61) rfl)) (own_w2 hw) (by decide) (by decide)) q173a q173c (g := (mkF m 89 #[.val (.int p_1), .val (.int 0), .val (.ref b3), .val (.int 0), .val (.int 1), .val (.int 1), .val (.int 2), .val (.int 3), .unset, .unset] [(.int 1), (.ref b154), (.ref b3)])) rfl (by rw [hml]; rfl) (Steps.refl _) (argsL := [(.ref b154), (.int 1)]) (rest := []) (lenOf own_pd16 rfl) rfl (by show 2 * 0 + _ ≤ _; exact Nat.le_of_eq rfl) (hb hby at_89) (fun _ _ => ⟨rfl, e157, (by show k153 + 1 + _ ≤ _; rw [y153]; decide), (by show n153 + 1 + _ ≤ _; rw [z153]; decide)⟩)
    dsimp only [Pt.U, Pt.locs, Pt.cells, Pt.slots] at X173 l173 y173 z173 st173 hQ173 hS173 gr173
    have y173 : k173 = 27 := own_addeq y173 (congrArg (fun q => q + 1) y153) rfl
    have z173 : n173 = 380 := own_addeq z173 (congrArg (fun q => q + 1) z153) rfl
    have Wn173 := hS173.1
    obtain ⟨X173, hS173, hZ, hown⟩ := rebS hS102 (n1 := T157.heap.size) (by rw [e157]; omega) X173 hS173 gr173 hZ hown
    obtain ⟨x_174, x_175, x_176, x_177, rfl, N173q, K173q, f178, f179, f180, f181, f182, f183, f184, f185, f186, f187, f188, f189, f190, f191, f192, f193, f194, f195, f196⟩ := hQ173
    have N173 : Fr n0 L173 := by rw [l173]; exact Fr.app N157 N173q
    have z197 := K173q.1
    have K173 : Keep h0 T173.heap [] := K157.trans K173q (allS (Or.inr (by omega)) all0)
    have z198 := own_lt f178.lt
    have z199 := own_lt f179.lt
    have z200 := own_lt f180.lt
    have z201 := own_lt f181.lt
    have z202 := own_lt f182.lt
    have z203 := own_lt f183.lt
    have z204 := own_lt f184.lt
    have z205 := own_lt f185.lt
    have z206 := own_lt f186.lt
    have z207 := own_lt f187.lt
    have z208 := own_lt f188.lt
    have z209 := own_lt f189.lt
    have z210 := own_lt f190.lt
    have z211 := own_lt f191.lt
    simp only [own_lts, and_true] at f196
    refine own_go (fun _ k => st173.trans k) ?_
    show own_Go _ _ _ _ T173 (mkF m 92 #[.val (.int p_1), .val (.int 0), .val (.ref b3), .val (.int 0), .val (.int 1), .val (.int 1), .val (.int 2), .val (.int 3), .unset, .unset] [(.int 0)])
    refine own_go (fun _ k => XS.istore X173.here hx rfl (hb hby at_92) rfl (l' := #[.val (.int p_1), .val (.int 0), .val (.ref b3), .val (.int 0), .val (.int 1), .val (.int 1), .val (.int 2), .val (.int 3), .val (.int 0), .unset]) rfl (XS.aloadN X173.here hx rfl (hb hby at_94) rfl rfl (XS.iconst X173.here hx rfl (hb hby at_95) k))) ?_
    obtain ⟨T212, h212, k212, X212, e212, E212, A212, st212⟩ := newP X173 hx hZ (hw _ (List.mem_of_getElem? (i := 9) rfl)) rfl (g := (mkF m 96 #[.val (.int p_1), .val (.int 0), .val (.ref b3), .val (.int 0), .val (.int 1), .val (.int 1), .val (.int 2), .val (.int 3), .val (.int 0), .unset] [(.int 1), (.ref b3)])) rfl (hb hby at_96) rfl (by decide) (cap := 1) (by decide) (by decide) (by rw [y173]; decide) (by rw [z173]; decide)
    obtain ⟨b212, g212⟩ : ∃ z, z = T173.heap.size := ⟨_, rfl⟩
    rw [← g212] at A212 st212
    have z213 := E212.1
    have lt_b212 := own_lt A212.lt
    have K212 : Keep h0 h212 [] := K173.ext E212
    have V_b212 : own_AV Z h212 b212 .int 1 (fun _ => (.int 0)) := own_AV.new A212 (by decide)
    refine own_go (fun _ k => st212 _ k) ?_
    show own_Go _ _ _ _ T212 (mkF m 98 #[.val (.int p_1), .val (.int 0), .val (.ref b3), .val (.int 0), .val (.int 1), .val (.int 1), .val (.int 2), .val (.int 3), .val (.int 0), .unset] [(.ref b212), (.ref b3)])
    refine own_go (fun _ k => XS.dup X212.here hx rfl (hb hby at_98) rfl rfl (XS.iconst X212.here hx rfl (hb hby at_99) (XS.iloadN X212.here hx rfl (hb hby at_100) rfl k))) ?_
    obtain ⟨q214, c214, R214, s214, t214⟩ := id V_b212
    have hin214 : ¬ ((0 : Int32) < 0 ∨ c214.slots.size ≤ ((0 : Int32)).toNatClampNeg) := inb_of s214 ⟨by decide, by decide⟩
    obtain ⟨T215, h215, X215, e215, W215, st215⟩ := stI X212 hx hZ e212 R214 (j := (0 : Int32)) hin214 (g := (mkF m 101 #[.val (.int p_1), .val (.int 0), .val (.ref b3), .val (.int 0), .val (.int 1), .val (.int 1), .val (.int 2), .val (.int 3), .val (.int 0), .unset] [(.int 0), (.int 0), (.ref b212), (.ref b212), (.ref b3)])) rfl rfl (hb hby at_101)
    have V215 : own_AV Z h215 b212 .int 1 (own_upd (fun _ => (.int 0)) 0 (.int 0)) := own_AV.set (k := 0) V_b212 W215 (by decide)
    have z216 := W215.size
    have K215 : Keep h0 h215 [] := K212.wr W215 (Or.inr (by omega))
    have N215 := Fr.snoc X215 N173 (by omega : n0 ≤ b212)
    refine own_go (fun _ k => st215 _ k) ?_
    show own_Go _ _ _ _ T215 (mkF m 102 #[.val (.int p_1), .val (.int 0), .val (.ref b3), .val (.int 0), .val (.int 1), .val (.int 1), .val (.int 2), .val (.int 3), .val (.int 0), .unset] [(.ref b212), (.ref b3)])
    refine own_go (fun _ k => XS.iload X215.here hx rfl (hb hby at_102) rfl k) ?_
    have f217 := (((f159.keep K173q (ninS (own_ne (by omega)) nin0)).ext E212).other W215 (own_ne (by omega)))
    have f218 := (((f160.keep K173q (ninS (own_ne (by omega)) nin0)).ext E212).other W215 (own_ne (by omega)))
    have f219 := ((f190.ext E212).other W215 (own_ne (by omega)))
    have f220 := ((f191.ext E212).other W215 (own_ne (by omega)))
    have f221 := ((f178.ext E212).wr W215)
    have f222 := ((f180.ext E212).other W215 (Or.inl (own_ne (by omega))))
    have f223 := ((f181.ext E212).other W215 (Or.inl (own_ne (by omega))))
    have f224 := ((f184.ext E212).other W215 (Or.inl (own_ne (by omega))))
    have f225 := ((f185.ext E212).other W215 (Or.inl (own_ne (by omega))))
    have f226 := ((f186.ext E212).other W215 (Or.inl (own_ne (by omega))))
    have f227 := ((f187.ext E212).other W215 (Or.inl (own_ne (by omega))))
    obtain ⟨cq228, kq228, q228a, q228b, q228c⟩ := isOf hZ e215 f221
    obtain ⟨_, _, ⟨T228, L228, k228, n228⟩, -, X228, hS228, gr228, ⟨Lc228, hQ228, l228, y228, z228⟩, st228⟩ := X215.virtualBackS hx (y := (⟨own_N1, "implies", "([II)Z"⟩ : MethodName)) (z := (⟨own_N1, "implies", "([II)Z"⟩ : MethodName)) hown (mvT hZ (hw _ (List.mem_of_getElem? (i := 57) rfl))) (mvT hZ (hw _ (List.mem_of_getElem? (i := 58) rfl))) (notFace_of_selects (args := #[]) (mvT hZ (hw _ (List.mem_of_getElem? (i := 60) rfl)))) (mvT hZ (hw _ (List.mem_of_getElem? (i := 60) rfl))) (mvT hZ (hw _ (List.mem_of_getElem? (i := 59) rfl))) (by decide) (backOfS (W := 0) (own_rm8_s2 l Z a0 hw [] b3 b212 x_7 x_8 x_176 x_177 h215 n0 (by omega) V215 f217 f218 f219 f220 f221 f222 f223 f224 f225 f226 f227 (by simp only [own_lts, and_true]; omega)) hZ (hw _ (List.mem_of_getElem? (i := 61) rfl)) (own_w2 hw) (by decide) (by decide)) q228a q228c (g := (mkF m 104 #[.val (.int p_1), .val (.int 0), .val (.ref b3), .val (.int 0), .val (.int 1), .val (.int 1), .val (.int 2), .val (.int 3), .val (.int 0), .unset] [(.int 1), (.ref b212), (.ref b3)])) rfl (by rw [hml]; rfl) (Steps.refl _) (argsL := [(.ref b212), (.int 1)]) (rest := []) (lenOf own_pd16 rfl) rfl (by show 2 * 0 + _ ≤ _; exact Nat.le_of_eq rfl) (hb hby at_104) (fun _ _ => ⟨rfl, e215, (by show k173 + 1 + _ ≤ _; rw [y173]; decide), (by show n173 + 1 + _ ≤ _; rw [z173]; decide)⟩)
    dsimp only [Pt.U, Pt.locs, Pt.cells, Pt.slots] at X228 l228 y228 z228 st228 hQ228 hS228 gr228
    have y228 : k228 = 37 := own_addeq y228 (congrArg (fun q => q + 1) y173) rfl
    have z228 : n228 = 467 := own_addeq z228 (congrArg (fun q => q + 1) z173) rfl
    have Wn228 := hS228.1
    obtain ⟨X228, hS228, hZ, hown⟩ := rebS hS173 (n1 := T215.heap.size) (by rw [e215]; omega) X228 hS228 gr228 hZ hown
    obtain ⟨rfl, N228q, K228q⟩ := hQ228
    have N228 : Fr n0 L228 := by rw [l228]; exact Fr.app N215 N228q
    have z229 := K228q.1
    have K228 : Keep h0 T228.heap [] := K215.trans K228q all0
    refine own_go (fun _ k => st228.trans k) ?_
    show own_Go _ _ _ _ T228 (mkF m 107 #[.val (.int p_1), .val (.int 0), .val (.ref b3), .val (.int 0), .val (.int 1), .val (.int 1), .val (.int 2), .val (.int 3), .val (.int 0), .unset] [(.int 1)])
    refine own_go (fun _ k => XS.istore X228.here hx rfl (hb hby at_107) rfl (l' := #[.val (.int p_1), .val (.int 0), .val (.ref b3), .val (.int 0), .val (.int 1), .val (.int 1), .val (.int 2), .val (.int 3), .val (.int 0), .val (.int 1)]) rfl (XS.iloadN X228.here hx rfl (hb hby at_109) rfl k)) ?_
    have hc230 : (0 : Int32) = 0 := by decide
    refine own_go (fun _ k => XS.ifNo X228.here hx rfl (hb hby at_110) rfl (Jvm.Free.XT.i0_ne_f hc230) (XS.iload X228.here hx rfl (hb hby at_113) rfl (XS.iconst X228.here hx rfl (hb hby at_115) k))) ?_
    have hc231 : (1 : Int32) = (1 : Int32) := by decide
    refine own_go (fun _ k => XS.icmpNo X228.here hx rfl (hb hby at_116) rfl (Jvm.Free.XT.ii_ne_f hc231) (XS.iload X228.here hx rfl (hb hby at_119) rfl (XS.iconst X228.here hx rfl (hb hby at_121) k))) ?_
    have hc232 : (2 : Int32) = (2 : Int32) := by decide
    refine own_go (fun _ k => XS.icmpNo X228.here hx rfl (hb hby at_122) rfl (Jvm.Free.XT.ii_ne_f hc232) (XS.iload X228.here hx rfl (hb hby at_125) rfl (XS.iconst X228.here hx rfl (hb hby at_127) k))) ?_
    have hc233 : (3 : Int32) = (3 : Int32) := by decide
    refine own_go (fun _ k => XS.icmpNo X228.here hx rfl (hb hby at_128) rfl (Jvm.Free.XT.ii_ne_f hc233) (XS.iload X228.here hx rfl (hb hby at_131) rfl k)) ?_
    have hc234 : ¬ ((1 : Int32) = 0) := by decide
    refine own_go (fun _ k => XS.ifNo X228.here hx rfl (hb hby at_133) rfl (Jvm.Free.XT.i0_eq_f hc234) (XS.iload X228.here hx rfl (hb hby at_136) rfl k)) ?_
    have hc235 : (0 : Int32) = 0 := by decide
    refine own_go (fun _ k => XS.ifNo X228.here hx rfl (hb hby at_138) rfl (Jvm.Free.XT.i0_ne_f hc235) (XS.iload X228.here hx rfl (hb hby at_141) rfl k)) ?_
    have hc236 : ¬ ((1 : Int32) = 0) := by decide
    refine own_go (fun _ k => XS.ifNo X228.here hx rfl (hb hby at_143) rfl (Jvm.Free.XT.i0_eq_f hc236) (XS.iconst X228.here hx rfl (hb hby at_146) (XS.goto X228.here hx rfl (pc0 := 147) (pc' := 151) rfl (hb hby at_147) (by decide) (by decide) k))) ?_
    show own_Go _ _ _ _ T228 (mkF m 151 #[.val (.int p_1), .val (.int 0), .val (.ref b3), .val (.int 0), .val (.int 1), .val (.int 1), .val (.int 2), .val (.int 3), .val (.int 0), .val (.int 1)] [(.int 1)])
    obtain ⟨fs, hr, hrun, hended, hRW⟩ := X228.leaveW hS228 (by omega) (v := some (.int 1)) (fun h => by rw [Bd.returns] at h; cases h)
    refine ⟨_, _, retOut X228 hx Bd.returns rfl (Or.inl ⟨rfl, Or.inr (Or.inl rfl), _, rfl⟩) (hb hby at_151) hr, hrun, hended, _, _, rfl, ?_, own_monoW hRW (by rw [y228]; decide) (by rw [z228]; decide)⟩
    exact ⟨rfl, N228⟩
  · refine own_go (fun _ k => XS.ifNo X0.here hx rfl (hb hby at_3) rfl (Jvm.Free.XT.i0_eq_f hc2) (XS.iconst X0.here hx rfl (hb hby at_6) (XS.goto X0.here hx rfl (pc0 := 7) (pc' := 11) rfl (hb hby at_7) (by decide) (by decide) (XS.istoreN X0.here hx rfl (hb hby at_11) rfl (l' := #[.val (.int p_1), .val (.int 1), .unset, .unset, .unset, .unset, .unset, .unset, .unset, .unset]) rfl k)))) ?_
    show own_Go _ _ _ _ s₁ (mkF m 12 #[.val (.int p_1), .val (.int 1), .unset, .unset, .unset, .unset, .unset, .unset, .unset, .unset] [])
    obtain ⟨T238, h238, X238, e238, E238, A238, D238, Y238, st238⟩ := newO X0 hx hZ hown (own_w0 hw) (own_w1 hw) (own_w2 hw) e0 (g := (mkF m 12 #[.val (.int p_1), .val (.int 1), .unset, .unset, .unset, .unset, .unset, .unset, .unset, .unset] [])) rfl (hb hby at_12) (by decide) (by decide)
    obtain ⟨b238, g238⟩ : ∃ z, z = h0.size := ⟨_, rfl⟩
    rw [← g238] at A238 D238 Y238 st238
    have z239 := E238.1
    have lt_b238 := own_lt A238.lt
    have K238 : Keep h0 h238 [] := K0.ext E238
    have F_heads_b238 : Fld Z h238 b238 own_N1 "heads" "[I" .null := D238 (Or.inl (own_w11 hw)) (ty := (.array .int)) (by decide)
    have F_bodyStarts_b238 : Fld Z h238 b238 own_N1 "bodyStarts" "[I" .null := D238 (Or.inl (own_w13 hw)) (ty := (.array .int)) (by decide)
    have F_bodies_b238 : Fld Z h238 b238 own_N1 "bodies" "[I" .null := D238 (Or.inl (own_w15 hw)) (ty := (.array .int)) (by decide)
    have F_occurrences_b238 : Fld Z h238 b238 own_N1 "occurrences" "[I" .null := D238 (Or.inl (own_w22 hw)) (ty := (.array .int)) (by decide)
    have F_variableCount_b238 : Fld Z h238 b238 own_N1 "variableCount" "I" (.int 0) := D238 (Or.inl (own_w24 hw)) (ty := .int) (by decide)
    have F_clauseCount_b238 : Fld Z h238 b238 own_N1 "clauseCount" "I" (.int 0) := D238 (Or.inl (own_w47 hw)) (ty := .int) (by decide)
    have F_derivationStarts_b238 : Fld Z h238 b238 own_N1 "derivationStarts" "[I" .null := D238 (Or.inl (own_w105 hw)) (ty := (.array .int)) (by decide)
    have F_derivations_b238 : Fld Z h238 b238 own_N1 "derivations" "[I" .null := D238 (Or.inl (own_w107 hw)) (ty := (.array .int)) (by decide)
    have F_occurrenceStarts_b238 : Fld Z h238 b238 own_N1 "occurrenceStarts" "[I" .null := D238 (Or.inl (own_w109 hw)) (ty := (.array .int)) (by decide)
    refine own_go (fun _ k => st238 _ k) ?_
    show own_Go _ _ _ _ T238 (mkF m 15 #[.val (.int p_1), .val (.int 1), .unset, .unset, .unset, .unset, .unset, .unset, .unset, .unset] [(.ref b238)])
    refine own_go (fun _ k => XS.dup X238.here hx rfl (hb hby at_15) rfl rfl k) ?_
    obtain ⟨_, _, ⟨T240, L240, k240, n240⟩, -, X240, ⟨Lc240, hQ240, l240, y240, z240⟩, st240⟩ := X238.specialBack hx (y := (⟨own_N1, "<init>", "()V"⟩ : MethodName)) rfl hown (mvT hZ (hw _ (List.mem_of_getElem? (i := 3) rfl))) (mvT hZ (hw _ (List.mem_of_getElem? (i := 4) rfl))) (mvT hZ (hw _ (List.mem_of_getElem? (i := 5) rfl))) (by decide) (backOf (W := 1) (own_rm1_s1 l Z a0 hw [] b238 .null .null .null .null (.int 0) (.int 0) .null .null .null h238 n0 (by omega) A238 F_bodies_b238 F_bodyStarts_b238 F_clauseCount_b238 F_derivationStarts_b238 F_derivations_b238 F_heads_b238 F_occurrenceStarts_b238 F_occurrences_b238 F_variableCount_b238 (by omega)) hZ (hw _ (List.mem_of_getElem? (i := 5) rfl)) (own_w2 hw) (by decide) (by decide)) (g := (mkF m 16 #[.val (.int p_1), .val (.int 1), .unset, .unset, .unset, .unset, .unset, .unset, .unset, .unset] [(.ref b238), (.ref b238)])) rfl (by rw [hml]; rfl) (Steps.refl _) (a := b238) (argsL := []) (rest := [(.ref b238)]) (lenOf own_pd1 rfl) rfl (by show 2 * 0 + _ ≤ _; exact Nat.le_of_eq rfl) (hb hby at_16) (fun _ _ => ⟨rfl, e238, (by decide : 1 + 3 ≤ _), (by decide : 9 + 193 ≤ _)⟩)
    dsimp only [Pt.U, Pt.locs, Pt.cells, Pt.slots] at X240 l240 y240 z240 st240 hQ240
    have y240 : k240 = 4 := y240
    have z240 : n240 = 202 := z240
    obtain ⟨x_241, x_242, x_243, rfl, N240q, K240q, f244, f245, f246, f247, f248, f249, f250, f251, f252, f253, f254, f255, f256, f257, f258, f259, f260⟩ := hQ240
    have N240 : Fr n0 L240 := by rw [l240]; exact Fr.app N0 N240q
    have z261 := K240q.1
    have K240 : Keep h0 T240.heap [] := K238.trans K240q (allS (Or.inr (by omega)) all0)
    have z262 := own_lt f244.lt
    have z263 := own_lt f245.lt
    have z264 := own_lt f246.lt
    have z265 := own_lt f247.lt
    have z266 := own_lt f248.lt
    have z267 := own_lt f249.lt
    have z268 := own_lt f250.lt
    have z269 := own_lt f251.lt
    have z270 := own_lt f252.lt
    have z271 := own_lt f253.lt
    have z272 := own_lt f254.lt
    have z273 := own_lt f255.lt
    have z274 := own_lt f256.lt
    simp only [own_lts, and_true] at f260
    refine own_go (fun _ k => st240.trans k) ?_
    show own_Go _ _ _ _ T240 (mkF m 19 #[.val (.int p_1), .val (.int 1), .unset, .unset, .unset, .unset, .unset, .unset, .unset, .unset] [(.ref b238)])
    refine own_go (fun _ k => XS.astoreN X240.here hx rfl (hb hby at_19) rfl rfl (l' := #[.val (.int p_1), .val (.int 1), .val (.ref b238), .unset, .unset, .unset, .unset, .unset, .unset, .unset]) rfl (XS.aloadN X240.here hx rfl (hb hby at_20) rfl rfl k)) ?_
    obtain ⟨cq275, kq275, q275a, q275b, q275c⟩ := isOf hZ rfl f244
    obtain ⟨_, _, ⟨T275, L275, k275, n275⟩, -, X275, ⟨Lc275, hQ275, l275, y275, z275⟩, st275⟩ := X240.virtualBack hx (y := (⟨own_N1, "newVariable", "()I"⟩ : MethodName)) (z := (⟨own_N1, "newVariable", "()I"⟩ : MethodName)) hown (mvT hZ (hw _ (List.mem_of_getElem? (i := 16) rfl))) (mvT hZ (hw _ (List.mem_of_getElem? (i := 17) rfl))) (notFace_of_selects (args := #[]) (mvT hZ (hw _ (List.mem_of_getElem? (i := 19) rfl)))) (mvT hZ (hw _ (List.mem_of_getElem? (i := 19) rfl))) (mvT hZ (hw _ (List.mem_of_getElem? (i := 18) rfl))) (by decide) (backOf (W := 0) (own_rm3 l Z a0 hw [] b238 (.ref x_243) (.ref x_242) (.ref x_241) .null (0 : Int32) (0 : Int32) .null .null .null T240.heap n0 (by omega) f244 f250 f246 f245 f252 f253 f247 f248 f249 f251 (by omega)) hZ (hw _ (List.mem_of_getElem? (i := 20) rfl)) (own_w2 hw) (by decide) (by decide)) q275a q275c (g := (mkF m 21 #[.val (.int p_1), .val (.int 1), .val (.ref b238), .unset, .unset, .unset, .unset, .unset, .unset, .unset] [(.ref b238)])) rfl (by rw [hml]; rfl) (Steps.refl _) (argsL := []) (rest := []) (lenOf own_pd2 rfl) rfl (by show 2 * 0 + _ ≤ _; exact Nat.le_of_eq rfl) (hb hby at_21) (fun _ _ => ⟨rfl, rfl, (by show k240 + _ ≤ _; rw [y240]; decide), (by show n240 + _ ≤ _; rw [z240]; decide)⟩)
    dsimp only [Pt.U, Pt.locs, Pt.cells, Pt.slots] at X275 l275 y275 z275 st275 hQ275
    have y275 : k275 = 4 := own_addeq y275 (congrArg (fun q => q) y240) rfl
    have z275 : n275 = 202 := own_addeq z275 (congrArg (fun q => q) z240) rfl
    obtain ⟨rfl, N275q, K275q, f276, f277, f278, f279, f280, f281, f282, f283, f284, f285⟩ := hQ275
    have N275 : Fr n0 L275 := by rw [l275]; exact Fr.app N240 N275q
    have z286 := K275q.1
    have K275 : Keep h0 T275.heap [] := K240.trans K275q (allS (Or.inr (by omega)) all0)
    have z287 := own_lt f276.lt
    have z288 := own_lt f277.lt
    have z289 := own_lt f278.lt
    have z290 := own_lt f279.lt
    have z291 := own_lt f280.lt
    have f281 : Fld Z T275.heap b238 own_N1 "variableCount" "I" (.int 1) := f281
    have z292 := own_lt f281.lt
    have z293 := own_lt f282.lt
    have z294 := own_lt f283.lt
    have z295 := own_lt f284.lt
    have z296 := own_lt f285.lt
    refine own_go (fun _ k => st275.trans k) ?_
    show own_Go _ _ _ _ T275 (mkF m 24 #[.val (.int p_1), .val (.int 1), .val (.ref b238), .unset, .unset, .unset, .unset, .unset, .unset, .unset] [(.int 0)])
    refine own_go (fun _ k => XS.istoreN X275.here hx rfl (hb hby at_24) rfl (l' := #[.val (.int p_1), .val (.int 1), .val (.ref b238), .val (.int 0), .unset, .unset, .unset, .unset, .unset, .unset]) rfl (XS.aloadN X275.here hx rfl (hb hby at_25) rfl rfl k)) ?_
    obtain ⟨cq297, kq297, q297a, q297b, q297c⟩ := isOf hZ rfl f276
    obtain ⟨_, _, ⟨T297, L297, k297, n297⟩, -, X297, ⟨Lc297, hQ297, l297, y297, z297⟩, st297⟩ := X275.virtualBack hx (y := (⟨own_N1, "newVariable", "()I"⟩ : MethodName)) (z := (⟨own_N1, "newVariable", "()I"⟩ : MethodName)) hown (mvT hZ (hw _ (List.mem_of_getElem? (i := 16) rfl))) (mvT hZ (hw _ (List.mem_of_getElem? (i := 17) rfl))) (notFace_of_selects (args := #[]) (mvT hZ (hw _ (List.mem_of_getElem? (i := 19) rfl)))) (mvT hZ (hw _ (List.mem_of_getElem? (i := 19) rfl))) (mvT hZ (hw _ (List.mem_of_getElem? (i := 18) rfl))) (by decide) (backOf (W := 0) (own_rm3 l Z a0 hw [] b238 (.ref x_243) (.ref x_242) (.ref x_241) .null (1 : Int32) (0 : Int32) .null .null .null T275.heap n0 (by omega) f276 f277 f278 f279 f280 f281 f282 f283 f284 f285 (by omega)) hZ (hw _ (List.mem_of_getElem? (i := 20) rfl)) (own_w2 hw) (by decide) (by decide)) q297a q297c (g := (mkF m 26 #[.val (.int p_1), .val (.int 1), .val (.ref b238), .val (.int 0), .unset, .unset, .unset, .unset, .unset, .unset] [(.ref b238)])) rfl (by rw [hml]; rfl) (Steps.refl _) (argsL := []) (rest := []) (lenOf own_pd2 rfl) rfl (by show 2 * 0 + _ ≤ _; exact Nat.le_of_eq rfl) (hb hby at_26) (fun _ _ => ⟨rfl, rfl, (by show k275 + _ ≤ _; rw [y275]; decide), (by show n275 + _ ≤ _; rw [z275]; decide)⟩)
    dsimp only [Pt.U, Pt.locs, Pt.cells, Pt.slots] at X297 l297 y297 z297 st297 hQ297
    have y297 : k297 = 4 := own_addeq y297 (congrArg (fun q => q) y275) rfl
    have z297 : n297 = 202 := own_addeq z297 (congrArg (fun q => q) z275) rfl
    obtain ⟨rfl, N297q, K297q, f298, f299, f300, f301, f302, f303, f304, f305, f306, f307⟩ := hQ297
    have N297 : Fr n0 L297 := by rw [l297]; exact Fr.app N275 N297q
    have z308 := K297q.1
    have K297 : Keep h0 T297.heap [] := K275.trans K297q (allS (Or.inr (by omega)) all0)
    have z309 := own_lt f298.lt
    have z310 := own_lt f299.lt
    have z311 := own_lt f300.lt
    have z312 := own_lt f301.lt
    have z313 := own_lt f302.lt
    have f303 : Fld Z T297.heap b238 own_N1 "variableCount" "I" (.int 2) := f303
    have z314 := own_lt f303.lt
    have z315 := own_lt f304.lt
    have z316 := own_lt f305.lt
    have z317 := own_lt f306.lt
    have z318 := own_lt f307.lt
    refine own_go (fun _ k => st297.trans k) ?_
    show own_Go _ _ _ _ T297 (mkF m 29 #[.val (.int p_1), .val (.int 1), .val (.ref b238), .val (.int 0), .unset, .unset, .unset, .unset, .unset, .unset] [(.int 1)])
    refine own_go (fun _ k => XS.istore X297.here hx rfl (hb hby at_29) rfl (l' := #[.val (.int p_1), .val (.int 1), .val (.ref b238), .val (.int 0), .val (.int 1), .unset, .unset, .unset, .unset, .unset]) rfl (XS.aloadN X297.here hx rfl (hb hby at_31) rfl rfl (XS.iload X297.here hx rfl (hb hby at_32) rfl (XS.iconst X297.here hx rfl (hb hby at_34) k)))) ?_
    show own_Go _ _ _ _ T297 (mkF m 35 #[.val (.int p_1), .val (.int 1), .val (.ref b238), .val (.int 0), .val (.int 1), .unset, .unset, .unset, .unset, .unset] [(.int 1), (.int 1), (.ref b238)])
    obtain ⟨T319, h319, k319, X319, e319, E319, A319, st319⟩ := newP X297 hx hZ (hw _ (List.mem_of_getElem? (i := 9) rfl)) rfl (g := (mkF m 35 #[.val (.int p_1), .val (.int 1), .val (.ref b238), .val (.int 0), .val (.int 1), .unset, .unset, .unset, .unset, .unset] [(.int 1), (.int 1), (.ref b238)])) rfl (hb hby at_35) rfl (by decide) (cap := 1) (by decide) (by decide) (by rw [y297]; decide) (by rw [z297]; decide)
    obtain ⟨b319, g319⟩ : ∃ z, z = T297.heap.size := ⟨_, rfl⟩
    rw [← g319] at A319 st319
    have z320 := E319.1
    have lt_b319 := own_lt A319.lt
    have K319 : Keep h0 h319 [] := K297.ext E319
    have V_b319 : own_AV Z h319 b319 .int 1 (fun _ => (.int 0)) := own_AV.new A319 (by decide)
    refine own_go (fun _ k => st319 _ k) ?_
    show own_Go _ _ _ _ T319 (mkF m 37 #[.val (.int p_1), .val (.int 1), .val (.ref b238), .val (.int 0), .val (.int 1), .unset, .unset, .unset, .unset, .unset] [(.ref b319), (.int 1), (.ref b238)])
    refine own_go (fun _ k => XS.dup X319.here hx rfl (hb hby at_37) rfl rfl (XS.iconst X319.here hx rfl (hb hby at_38) (XS.iloadN X319.here hx rfl (hb hby at_39) rfl k))) ?_
    obtain ⟨q321, c321, R321, s321, t321⟩ := id V_b319
    have hin321 : ¬ ((0 : Int32) < 0 ∨ c321.slots.size ≤ ((0 : Int32)).toNatClampNeg) := inb_of s321 ⟨by decide, by decide⟩
    obtain ⟨T322, h322, X322, e322, W322, st322⟩ := stI X319 hx hZ e319 R321 (j := (0 : Int32)) hin321 (g := (mkF m 40 #[.val (.int p_1), .val (.int 1), .val (.ref b238), .val (.int 0), .val (.int 1), .unset, .unset, .unset, .unset, .unset] [(.int 0), (.int 0), (.ref b319), (.ref b319), (.int 1), (.ref b238)])) rfl rfl (hb hby at_40)
    have V322 : own_AV Z h322 b319 .int 1 (own_upd (fun _ => (.int 0)) 0 (.int 0)) := own_AV.set (k := 0) V_b319 W322 (by decide)
    have z323 := W322.size
    have K322 : Keep h0 h322 [] := K319.wr W322 (Or.inr (by omega))
    have N322 := Fr.snoc X322 N297 (by omega : n0 ≤ b319)
    refine own_go (fun _ k => st322 _ k) ?_
    show own_Go _ _ _ _ T322 (mkF m 41 #[.val (.int p_1), .val (.int 1), .val (.ref b238), .val (.int 0), .val (.int 1), .unset, .unset, .unset, .unset, .unset] [(.ref b319), (.int 1), (.ref b238)])
    have f324 := ((((f256.keep K275q (ninS (own_ne (by omega)) nin0)).keep K297q (ninS (own_ne (by omega)) nin0)).ext E319).other W322 (own_ne (by omega)))
    have f325 := ((((f255.keep K275q (ninS (own_ne (by omega)) nin0)).keep K297q (ninS (own_ne (by omega)) nin0)).ext E319).other W322 (own_ne (by omega)))
    have f326 := ((((f254.keep K275q (ninS (own_ne (by omega)) nin0)).keep K297q (ninS (own_ne (by omega)) nin0)).ext E319).other W322 (own_ne (by omega)))
    have f327 := ((f298.ext E319).wr W322)
    have f328 := ((f301.ext E319).other W322 (Or.inl (own_ne (by omega))))
    have f329 := ((f300.ext E319).other W322 (Or.inl (own_ne (by omega))))
    have f330 := ((f304.ext E319).other W322 (Or.inl (own_ne (by omega))))
    have f331 := ((f305.ext E319).other W322 (Or.inl (own_ne (by omega))))
    have f332 := ((f306.ext E319).other W322 (Or.inl (own_ne (by omega))))
    have f333 := ((f299.ext E319).other W322 (Or.inl (own_ne (by omega))))
    have f334 := ((f307.ext E319).other W322 (Or.inl (own_ne (by omega))))
    have f335 := ((f302.ext E319).other W322 (Or.inl (own_ne (by omega))))
    have f336 := ((f303.ext E319).other W322 (Or.inl (own_ne (by omega))))
    obtain ⟨cq337, kq337, q337a, q337b, q337c⟩ := isOf hZ e322 f327
    obtain ⟨_, _, ⟨T337, L337, k337, n337⟩, -, X337, hS337, gr337, ⟨Lc337, hQ337, l337, y337, z337⟩, st337⟩ := X322.virtualBackS hx (y := (⟨own_N1, "add", "(I[I)V"⟩ : MethodName)) (z := (⟨own_N1, "add", "(I[I)V"⟩ : MethodName)) hown (mvT hZ (hw _ (List.mem_of_getElem? (i := 25) rfl))) (mvT hZ (hw _ (List.mem_of_getElem? (i := 26) rfl))) (notFace_of_selects (args := #[]) (mvT hZ (hw _ (List.mem_of_getElem? (i := 28) rfl)))) (mvT hZ (hw _ (List.mem_of_getElem? (i := 28) rfl))) (mvT hZ (hw _ (List.mem_of_getElem? (i := 27) rfl))) (by decide) (backOfS (W := 0) (own_rm4_s1 l Z a0 hw [] b238 b319 x_243 x_242 x_241 .null .null .null .null h322 n0 (by omega) V322 f324 f325 f326 f327 f328 f329 f330 f331 f332 f333 f334 f335 f336 (by simp only [own_lts, and_true]; omega) (by omega) (by omega) (by omega) (by omega)) hZ (hw _ (List.mem_of_getElem? (i := 29) rfl)) (own_w2 hw) (by decide) (by decide)) q337a q337c (g := (mkF m 41 #[.val (.int p_1), .val (.int 1), .val (.ref b238), .val (.int 0), .val (.int 1), .unset, .unset, .unset, .unset, .unset] [(.ref b319), (.int 1), (.ref b238)])) rfl (by rw [hml]; rfl) (Steps.refl _) (argsL := [(.int 1), (.ref b319)]) (rest := []) (lenOf own_pd4 rfl) rfl (by show 2 * 0 + _ ≤ _; exact Nat.le_of_eq rfl) (hb hby at_41) (fun _ _ => ⟨rfl, e322, (by show k297 + 1 + _ ≤ _; rw [y297]; decide), (by show n297 + 1 + _ ≤ _; rw [z297]; decide)⟩)
    dsimp only [Pt.U, Pt.locs, Pt.cells, Pt.slots] at X337 l337 y337 z337 st337 hQ337 hS337 gr337
    have y337 : k337 = 9 := own_addeq y337 (congrArg (fun q => q + 1) y297) rfl
    have z337 : n337 = 275 := own_addeq z337 (congrArg (fun q => q + 1) z297) rfl
    have Wn337 := hS337.1
    obtain ⟨X337, hS337, hZ, hown⟩ := rebS hS0 (n1 := T322.heap.size) (by rw [e322]; omega) X337 hS337 gr337 hZ hown
    obtain ⟨rfl, N337q, K337q, f338, f339, f340, f341, f342, f343, f344, f345, f346, f347, f348, f349, f350⟩ := hQ337
    have N337 : Fr n0 L337 := by rw [l337]; exact Fr.app N322 N337q
    have z351 := K337q.1
    have K337 : Keep h0 T337.heap [] := K322.trans K337q (allS (Or.inr (by omega)) (allS (Or.inr (by omega)) (allS (Or.inr (by omega)) (allS (Or.inr (by omega)) all0))))
    have z352 := own_lt f338.lt
    have z353 := own_lt f339.lt
    have z354 := own_lt f340.lt
    have z355 := own_lt f341.lt
    have z356 := own_lt f342.lt
    have z357 := own_lt f343.lt
    have z358 := own_lt f344.lt
    have z359 := own_lt f345.lt
    have z360 := own_lt f346.lt
    have z361 := own_lt f347.lt
    have z362 := own_lt f348.lt
    have z363 := own_lt f349.lt
    have z364 := own_lt f350.lt
    refine own_go (fun _ k => st337.trans k) ?_
    show own_Go _ _ _ _ T337 (mkF m 44 #[.val (.int p_1), .val (.int 1), .val (.ref b238), .val (.int 0), .val (.int 1), .unset, .unset, .unset, .unset, .unset] [])
    refine own_go (fun _ k => XS.iconst X337.here hx rfl (hb hby at_44) (XS.istore X337.here hx rfl (hb hby at_45) rfl (l' := #[.val (.int p_1), .val (.int 1), .val (.ref b238), .val (.int 0), .val (.int 1), .val (.int 1), .unset, .unset, .unset, .unset]) rfl (XS.iloadN X337.here hx rfl (hb hby at_47) rfl k))) ?_
    have hc365 : ¬ ((1 : Int32) = 0) := by decide
    refine own_go (fun _ k => XS.ifNo X337.here hx rfl (hb hby at_48) rfl (Jvm.Free.XT.i0_eq_f hc365) (XS.aloadN X337.here hx rfl (hb hby at_51) rfl rfl (XS.iconst X337.here hx rfl (hb hby at_52) k))) ?_
    obtain ⟨T366, h366, k366, X366, e366, E366, A366, st366⟩ := newP X337 hx hZ (hw _ (List.mem_of_getElem? (i := 9) rfl)) rfl (g := (mkF m 53 #[.val (.int p_1), .val (.int 1), .val (.ref b238), .val (.int 0), .val (.int 1), .val (.int 1), .unset, .unset, .unset, .unset] [(.int 1), (.ref b238)])) rfl (hb hby at_53) rfl (by decide) (cap := 1) (by decide) (by decide) (by rw [y337]; decide) (by rw [z337]; decide)
    obtain ⟨b366, g366⟩ : ∃ z, z = T337.heap.size := ⟨_, rfl⟩
    rw [← g366] at A366 st366
    have z367 := E366.1
    have lt_b366 := own_lt A366.lt
    have K366 : Keep h0 h366 [] := K337.ext E366
    have V_b366 : own_AV Z h366 b366 .int 1 (fun _ => (.int 0)) := own_AV.new A366 (by decide)
    refine own_go (fun _ k => st366 _ k) ?_
    show own_Go _ _ _ _ T366 (mkF m 55 #[.val (.int p_1), .val (.int 1), .val (.ref b238), .val (.int 0), .val (.int 1), .val (.int 1), .unset, .unset, .unset, .unset] [(.ref b366), (.ref b238)])
    refine own_go (fun _ k => XS.dup X366.here hx rfl (hb hby at_55) rfl rfl (XS.iconst X366.here hx rfl (hb hby at_56) (XS.iloadN X366.here hx rfl (hb hby at_57) rfl k))) ?_
    obtain ⟨q368, c368, R368, s368, t368⟩ := id V_b366
    have hin368 : ¬ ((0 : Int32) < 0 ∨ c368.slots.size ≤ ((0 : Int32)).toNatClampNeg) := inb_of s368 ⟨by decide, by decide⟩
    obtain ⟨T369, h369, X369, e369, W369, st369⟩ := stI X366 hx hZ e366 R368 (j := (0 : Int32)) hin368 (g := (mkF m 58 #[.val (.int p_1), .val (.int 1), .val (.ref b238), .val (.int 0), .val (.int 1), .val (.int 1), .unset, .unset, .unset, .unset] [(.int 0), (.int 0), (.ref b366), (.ref b366), (.ref b238)])) rfl rfl (hb hby at_58)
    have V369 : own_AV Z h369 b366 .int 1 (own_upd (fun _ => (.int 0)) 0 (.int 0)) := own_AV.set (k := 0) V_b366 W369 (by decide)
    have z370 := W369.size
    have K369 : Keep h0 h369 [] := K366.wr W369 (Or.inr (by omega))
    have N369 := Fr.snoc X369 N337 (by omega : n0 ≤ b366)
    refine own_go (fun _ k => st369 _ k) ?_
    show own_Go _ _ _ _ T369 (mkF m 59 #[.val (.int p_1), .val (.int 1), .val (.ref b238), .val (.int 0), .val (.int 1), .val (.int 1), .unset, .unset, .unset, .unset] [(.ref b366), (.ref b238)])
    refine own_go (fun _ k => XS.iload X369.here hx rfl (hb hby at_59) rfl k) ?_
    have f371 := ((f339.ext E366).other W369 (own_ne (by omega)))
    have f372 := ((f340.ext E366).other W369 (own_ne (by omega)))
    have f373 := ((f338.ext E366).other W369 (own_ne (by omega)))
    have f374 := ((f341.ext E366).wr W369)
    have f375 := ((f342.ext E366).other W369 (Or.inl (own_ne (by omega))))
    have f376 := ((f343.ext E366).other W369 (Or.inl (own_ne (by omega))))
    have f377 := ((f344.ext E366).other W369 (Or.inl (own_ne (by omega))))
    have f378 := ((f345.ext E366).other W369 (Or.inl (own_ne (by omega))))
    have f379 := ((f346.ext E366).other W369 (Or.inl (own_ne (by omega))))
    have f380 := ((f347.ext E366).other W369 (Or.inl (own_ne (by omega))))
    have f381 := ((f348.ext E366).other W369 (Or.inl (own_ne (by omega))))
    have f382 := ((f349.ext E366).other W369 (Or.inl (own_ne (by omega))))
    have f383 := ((f350.ext E366).other W369 (Or.inl (own_ne (by omega))))
    have f384 := (((((((((pr_M_g_lam.ext E238).keep K240q).keep K275q).keep K297q).ext E319).wr W322).keep K337q).ext E366).wr W369)
    obtain ⟨cq385, kq385, q385a, q385b, q385c⟩ := isOf hZ e369 f374
    obtain ⟨_, _, ⟨T385, L385, k385, n385⟩, -, X385, hS385, gr385, ⟨Lc385, hQ385, l385, y385, z385⟩, st385⟩ := X369.virtualBackS hx (y := (⟨own_N1, "implies", "([II)Z"⟩ : MethodName)) (z := (⟨own_N1, "implies", "([II)Z"⟩ : MethodName)) hown (mvT hZ (hw _ (List.mem_of_getElem? (i := 57) rfl))) (mvT hZ (hw _ (List.mem_of_getElem? (i := 58) rfl))) (notFace_of_selects (args := #[]) (mvT hZ (hw _ (List.mem_of_getElem? (i := 60) rfl)))) (mvT hZ (hw _ (List.mem_of_getElem? (i := 60) rfl))) (mvT hZ (hw _ (List.mem_of_getElem? (i := 59) rfl))) (by decide) (backOfS (W := 0) (own_rm8_s3 l Z a0 hw [] b238 b366 g_lam x_241 x_242 x_243 .null .null .null h369 n0 (by omega) V369 f371 f372 f373 f374 f375 f376 f377 f378 f379 f380 f381 f382 f383 f384 (by simp only [own_lts, and_true]; omega) (by simp only [own_lts, and_true]; omega) (by omega)) hZ (hw _ (List.mem_of_getElem? (i := 61) rfl)) (own_w2 hw) (by decide) (by decide)) q385a q385c (g := (mkF m 61 #[.val (.int p_1), .val (.int 1), .val (.ref b238), .val (.int 0), .val (.int 1), .val (.int 1), .unset, .unset, .unset, .unset] [(.int 1), (.ref b366), (.ref b238)])) rfl (by rw [hml]; rfl) (Steps.refl _) (argsL := [(.ref b366), (.int 1)]) (rest := []) (lenOf own_pd16 rfl) rfl (by show 2 * 0 + _ ≤ _; exact Nat.le_of_eq rfl) (hb hby at_61) (fun _ _ => ⟨rfl, e369, (by show k337 + 1 + _ ≤ _; rw [y337]; decide), (by show n337 + 1 + _ ≤ _; rw [z337]; decide)⟩)
    dsimp only [Pt.U, Pt.locs, Pt.cells, Pt.slots] at X385 l385 y385 z385 st385 hQ385 hS385 gr385
    have y385 : k385 = 27 := own_addeq y385 (congrArg (fun q => q + 1) y337) rfl
    have z385 : n385 = 373 := own_addeq z385 (congrArg (fun q => q + 1) z337) rfl
    have Wn385 := hS385.1
    obtain ⟨X385, hS385, hZ, hown⟩ := rebS hS337 (n1 := T369.heap.size) (by rw [e369]; omega) X385 hS385 gr385 hZ hown
    obtain ⟨x_386, x_387, x_388, x_389, rfl, N385q, K385q, f390, f391, f392, f393, f394, f395, f396, f397, f398, f399, f400, f401, f402, f403, f404, f405, f406, f407, f408⟩ := hQ385
    have N385 : Fr n0 L385 := by rw [l385]; exact Fr.app N369 N385q
    have z409 := K385q.1
    have K385 : Keep h0 T385.heap [] := K369.trans K385q (allS (Or.inr (by omega)) all0)
    have z410 := own_lt f390.lt
    have z411 := own_lt f391.lt
    have z412 := own_lt f392.lt
    have z413 := own_lt f393.lt
    have z414 := own_lt f394.lt
    have z415 := own_lt f395.lt
    have z416 := own_lt f396.lt
    have z417 := own_lt f397.lt
    have z418 := own_lt f398.lt
    have z419 := own_lt f399.lt
    have z420 := own_lt f400.lt
    have z421 := own_lt f401.lt
    have z422 := own_lt f402.lt
    have z423 := own_lt f403.lt
    simp only [own_lts, and_true] at f408
    refine own_go (fun _ k => st385.trans k) ?_
    show own_Go _ _ _ _ T385 (mkF m 64 #[.val (.int p_1), .val (.int 1), .val (.ref b238), .val (.int 0), .val (.int 1), .val (.int 1), .unset, .unset, .unset, .unset] [(.int 1)])
    refine own_go (fun _ k => XS.istore X385.here hx rfl (hb hby at_64) rfl (l' := #[.val (.int p_1), .val (.int 1), .val (.ref b238), .val (.int 0), .val (.int 1), .val (.int 1), .unset, .unset, .unset, .unset]) rfl (XS.aloadN X385.here hx rfl (hb hby at_66) rfl rfl k)) ?_
    obtain ⟨cq424, kq424, q424a, q424b, q424c⟩ := isOf hZ rfl f390
    obtain ⟨_, _, ⟨T424, L424, k424, n424⟩, -, X424, ⟨Lc424, hQ424, l424, y424, z424⟩, st424⟩ := X385.virtualBack hx (y := (⟨own_N1, "newVariable", "()I"⟩ : MethodName)) (z := (⟨own_N1, "newVariable", "()I"⟩ : MethodName)) hown (mvT hZ (hw _ (List.mem_of_getElem? (i := 16) rfl))) (mvT hZ (hw _ (List.mem_of_getElem? (i := 17) rfl))) (notFace_of_selects (args := #[]) (mvT hZ (hw _ (List.mem_of_getElem? (i := 19) rfl)))) (mvT hZ (hw _ (List.mem_of_getElem? (i := 19) rfl))) (mvT hZ (hw _ (List.mem_of_getElem? (i := 18) rfl))) (by decide) (backOf (W := 0) (own_rm3 l Z a0 hw [] b238 (.ref x_243) (.ref x_242) (.ref x_241) (.ref x_389) (2 : Int32) (1 : Int32) (.ref x_386) (.ref x_387) (.ref x_388) T385.heap n0 (by omega) f390 f396 f392 f391 f398 f399 f393 f394 f395 f397 (by omega)) hZ (hw _ (List.mem_of_getElem? (i := 20) rfl)) (own_w2 hw) (by decide) (by decide)) q424a q424c (g := (mkF m 67 #[.val (.int p_1), .val (.int 1), .val (.ref b238), .val (.int 0), .val (.int 1), .val (.int 1), .unset, .unset, .unset, .unset] [(.ref b238)])) rfl (by rw [hml]; rfl) (Steps.refl _) (argsL := []) (rest := []) (lenOf own_pd2 rfl) rfl (by show 2 * 0 + _ ≤ _; exact Nat.le_of_eq rfl) (hb hby at_67) (fun _ _ => ⟨rfl, rfl, (by show k385 + _ ≤ _; rw [y385]; decide), (by show n385 + _ ≤ _; rw [z385]; decide)⟩)
    dsimp only [Pt.U, Pt.locs, Pt.cells, Pt.slots] at X424 l424 y424 z424 st424 hQ424
    have y424 : k424 = 27 := own_addeq y424 (congrArg (fun q => q) y385) rfl
    have z424 : n424 = 373 := own_addeq z424 (congrArg (fun q => q) z385) rfl
    obtain ⟨rfl, N424q, K424q, f425, f426, f427, f428, f429, f430, f431, f432, f433, f434⟩ := hQ424
    have N424 : Fr n0 L424 := by rw [l424]; exact Fr.app N385 N424q
    have z435 := K424q.1
    have K424 : Keep h0 T424.heap [] := K385.trans K424q (allS (Or.inr (by omega)) all0)
    have z436 := own_lt f425.lt
    have z437 := own_lt f426.lt
    have z438 := own_lt f427.lt
    have z439 := own_lt f428.lt
    have z440 := own_lt f429.lt
    have f430 : Fld Z T424.heap b238 own_N1 "variableCount" "I" (.int 3) := f430
    have z441 := own_lt f430.lt
    have z442 := own_lt f431.lt
    have z443 := own_lt f432.lt
    have z444 := own_lt f433.lt
    have z445 := own_lt f434.lt
    refine own_go (fun _ k => st424.trans k) ?_
    show own_Go _ _ _ _ T424 (mkF m 70 #[.val (.int p_1), .val (.int 1), .val (.ref b238), .val (.int 0), .val (.int 1), .val (.int 1), .unset, .unset, .unset, .unset] [(.int 2)])
    refine own_go (fun _ k => XS.istore X424.here hx rfl (hb hby at_70) rfl (l' := #[.val (.int p_1), .val (.int 1), .val (.ref b238), .val (.int 0), .val (.int 1), .val (.int 1), .val (.int 2), .unset, .unset, .unset]) rfl (XS.aloadN X424.here hx rfl (hb hby at_72) rfl rfl k)) ?_
    obtain ⟨cq446, kq446, q446a, q446b, q446c⟩ := isOf hZ rfl f425
    obtain ⟨_, _, ⟨T446, L446, k446, n446⟩, -, X446, ⟨Lc446, hQ446, l446, y446, z446⟩, st446⟩ := X424.virtualBack hx (y := (⟨own_N1, "variableCount", "()I"⟩ : MethodName)) (z := (⟨own_N1, "variableCount", "()I"⟩ : MethodName)) hown (mvT hZ (hw _ (List.mem_of_getElem? (i := 52) rfl))) (mvT hZ (hw _ (List.mem_of_getElem? (i := 53) rfl))) (notFace_of_selects (args := #[]) (mvT hZ (hw _ (List.mem_of_getElem? (i := 55) rfl)))) (mvT hZ (hw _ (List.mem_of_getElem? (i := 55) rfl))) (mvT hZ (hw _ (List.mem_of_getElem? (i := 54) rfl))) (by decide) (backOf (W := 0) (own_rm7_s1 l Z a0 hw [] b238  T424.heap n0 (by omega) f430) hZ (hw _ (List.mem_of_getElem? (i := 56) rfl)) (own_w2 hw) (by decide) (by decide)) q446a q446c (g := (mkF m 73 #[.val (.int p_1), .val (.int 1), .val (.ref b238), .val (.int 0), .val (.int 1), .val (.int 1), .val (.int 2), .unset, .unset, .unset] [(.ref b238)])) rfl (by rw [hml]; rfl) (Steps.refl _) (argsL := []) (rest := []) (lenOf own_pd2 rfl) rfl (by show 2 * 0 + _ ≤ _; exact Nat.le_of_eq rfl) (hb hby at_73) (fun _ _ => ⟨rfl, rfl, (by show k424 + _ ≤ _; rw [y424]; decide), (by show n424 + _ ≤ _; rw [z424]; decide)⟩)
    dsimp only [Pt.U, Pt.locs, Pt.cells, Pt.slots] at X446 l446 y446 z446 st446 hQ446
    have y446 : k446 = 27 := own_addeq y446 (congrArg (fun q => q) y424) rfl
    have z446 : n446 = 373 := own_addeq z446 (congrArg (fun q => q) z424) rfl
    obtain ⟨rfl, N446q, e446⟩ := hQ446
    have N446 : Fr n0 L446 := by rw [l446]; exact Fr.app N424 N446q
    refine own_go (fun _ k => st446.trans k) ?_
    show own_Go _ _ _ _ T446 (mkF m 76 #[.val (.int p_1), .val (.int 1), .val (.ref b238), .val (.int 0), .val (.int 1), .val (.int 1), .val (.int 2), .unset, .unset, .unset] [(.int 3)])
    refine own_go (fun _ k => XS.istore X446.here hx rfl (hb hby at_76) rfl (l' := #[.val (.int p_1), .val (.int 1), .val (.ref b238), .val (.int 0), .val (.int 1), .val (.int 1), .val (.int 2), .val (.int 3), .unset, .unset]) rfl (XS.aloadN X446.here hx rfl (hb hby at_78) rfl rfl (XS.iconst X446.here hx rfl (hb hby at_79) k))) ?_
    obtain ⟨T447, h447, k447, X447, e447, E447, A447, st447⟩ := newP X446 hx hZ (hw _ (List.mem_of_getElem? (i := 9) rfl)) e446 (g := (mkF m 80 #[.val (.int p_1), .val (.int 1), .val (.ref b238), .val (.int 0), .val (.int 1), .val (.int 1), .val (.int 2), .val (.int 3), .unset, .unset] [(.int 1), (.ref b238)])) rfl (hb hby at_80) rfl (by decide) (cap := 1) (by decide) (by decide) (by rw [y446]; decide) (by rw [z446]; decide)
    obtain ⟨b447, g447⟩ : ∃ z, z = T424.heap.size := ⟨_, rfl⟩
    rw [← g447] at A447 st447
    have z448 := E447.1
    have lt_b447 := own_lt A447.lt
    have K447 : Keep h0 h447 [] := K424.ext E447
    have V_b447 : own_AV Z h447 b447 .int 1 (fun _ => (.int 0)) := own_AV.new A447 (by decide)
    refine own_go (fun _ k => st447 _ k) ?_
    show own_Go _ _ _ _ T447 (mkF m 82 #[.val (.int p_1), .val (.int 1), .val (.ref b238), .val (.int 0), .val (.int 1), .val (.int 1), .val (.int 2), .val (.int 3), .unset, .unset] [(.ref b447), (.ref b238)])
    refine own_go (fun _ k => XS.dup X447.here hx rfl (hb hby at_82) rfl rfl (XS.iconst X447.here hx rfl (hb hby at_83) (XS.iload X447.here hx rfl (hb hby at_84) rfl k))) ?_
    obtain ⟨q449, c449, R449, s449, t449⟩ := id V_b447
    have hin449 : ¬ ((0 : Int32) < 0 ∨ c449.slots.size ≤ ((0 : Int32)).toNatClampNeg) := inb_of s449 ⟨by decide, by decide⟩
    obtain ⟨T450, h450, X450, e450, W450, st450⟩ := stI X447 hx hZ e447 R449 (j := (0 : Int32)) hin449 (g := (mkF m 86 #[.val (.int p_1), .val (.int 1), .val (.ref b238), .val (.int 0), .val (.int 1), .val (.int 1), .val (.int 2), .val (.int 3), .unset, .unset] [(.int 2), (.int 0), (.ref b447), (.ref b447), (.ref b238)])) rfl rfl (hb hby at_86)
    have V450 : own_AV Z h450 b447 .int 1 (own_upd (fun _ => (.int 0)) 0 (.int 2)) := own_AV.set (k := 0) V_b447 W450 (by decide)
    have z451 := W450.size
    have K450 : Keep h0 h450 [] := K447.wr W450 (Or.inr (by omega))
    have N450 := Fr.snoc X450 N446 (by omega : n0 ≤ b447)
    refine own_go (fun _ k => st450 _ k) ?_
    show own_Go _ _ _ _ T450 (mkF m 87 #[.val (.int p_1), .val (.int 1), .val (.ref b238), .val (.int 0), .val (.int 1), .val (.int 1), .val (.int 2), .val (.int 3), .unset, .unset] [(.ref b447), (.ref b238)])
    refine own_go (fun _ k => XS.iload X450.here hx rfl (hb hby at_87) rfl k) ?_
    have f452 := ((((f371.keep K385q (ninS (own_ne (by omega)) nin0)).keep K424q (ninS (own_ne (by omega)) nin0)).ext E447).other W450 (own_ne (by omega)))
    have f453 := ((((f372.keep K385q (ninS (own_ne (by omega)) nin0)).keep K424q (ninS (own_ne (by omega)) nin0)).ext E447).other W450 (own_ne (by omega)))
    have f454 := ((((f373.keep K385q (ninS (own_ne (by omega)) nin0)).keep K424q (ninS (own_ne (by omega)) nin0)).ext E447).other W450 (own_ne (by omega)))
    have f455 := ((f425.ext E447).wr W450)
    have f456 := ((f428.ext E447).other W450 (Or.inl (own_ne (by omega))))
    have f457 := ((f427.ext E447).other W450 (Or.inl (own_ne (by omega))))
    have f458 := ((f431.ext E447).other W450 (Or.inl (own_ne (by omega))))
    have f459 := ((f432.ext E447).other W450 (Or.inl (own_ne (by omega))))
    have f460 := ((f433.ext E447).other W450 (Or.inl (own_ne (by omega))))
    have f461 := ((f426.ext E447).other W450 (Or.inl (own_ne (by omega))))
    have f462 := ((f434.ext E447).other W450 (Or.inl (own_ne (by omega))))
    have f463 := ((f429.ext E447).other W450 (Or.inl (own_ne (by omega))))
    have f464 := ((f430.ext E447).other W450 (Or.inl (own_ne (by omega))))
    have f465 := ((((f384.keep K385q).keep K424q).ext E447).wr W450)
    obtain ⟨cq466, kq466, q466a, q466b, q466c⟩ := isOf hZ e450 f455
    obtain ⟨_, _, ⟨T466, L466, k466, n466⟩, -, X466, hS466, gr466, ⟨Lc466, hQ466, l466, y466, z466⟩, st466⟩ := X450.virtualBackS hx (y := (⟨own_N1, "implies", "([II)Z"⟩ : MethodName)) (z := (⟨own_N1, "implies", "([II)Z"⟩ : MethodName)) hown (mvT hZ (hw _ (List.mem_of_getElem? (i := 57) rfl))) (mvT hZ (hw _ (List.mem_of_getElem? (i := 58) rfl))) (notFace_of_selects (args := #[]) (mvT hZ (hw _ (List.mem_of_getElem? (i := 60) rfl)))) (mvT hZ (hw _ (List.mem_of_getElem? (i := 60) rfl))) (mvT hZ (hw _ (List.mem_of_getElem? (i := 59) rfl))) (by decide) (backOfS (W := 0) (own_rm8_s1 l Z a0 hw [] b238 b447 g_lam x_243 x_242 x_241 (.ref x_386) (.ref x_387) (.ref x_388) h450 n0 (by omega) V450 f452 f453 f454 f455 f456 f457 f458 f459 f460 f461 f462 f463 f464 f465 (by simp only [own_lts, and_true]; omega) (by simp only [own_lts, and_true]; omega) (by omega)) hZ (hw _ (List.mem_of_getElem? (i := 61) rfl)) (own_w2 hw) (by decide) (by decide)) q466a q466c (g := (mkF m 89 #[.val (.int p_1), .val (.int 1), .val (.ref b238), .val (.int 0), .val (.int 1), .val (.int 1), .val (.int 2), .val (.int 3), .unset, .unset] [(.int 1), (.ref b447), (.ref b238)])) rfl (by rw [hml]; rfl) (Steps.refl _) (argsL := [(.ref b447), (.int 1)]) (rest := []) (lenOf own_pd16 rfl) rfl (by show 2 * 0 + _ ≤ _; exact Nat.le_of_eq rfl) (hb hby at_89) (fun _ _ => ⟨rfl, e450, (by show k446 + 1 + _ ≤ _; rw [y446]; decide), (by show n446 + 1 + _ ≤ _; rw [z446]; decide)⟩)
    dsimp only [Pt.U, Pt.locs, Pt.cells, Pt.slots] at X466 l466 y466 z466 st466 hQ466 hS466 gr466
    have y466 : k466 = 45 := own_addeq y466 (congrArg (fun q => q + 1) y446) rfl
    have z466 : n466 = 478 := own_addeq z466 (congrArg (fun q => q + 1) z446) rfl
    have Wn466 := hS466.1
    obtain ⟨X466, hS466, hZ, hown⟩ := rebS hS385 (n1 := T450.heap.size) (by rw [e450]; omega) X466 hS466 gr466 hZ hown
    obtain ⟨x_467, x_468, x_469, x_470, rfl, N466q, K466q, f471, f472, f473, f474, f475, f476, f477, f478, f479, f480, f481, f482, f483, f484, f485, f486, f487, f488, f489⟩ := hQ466
    have N466 : Fr n0 L466 := by rw [l466]; exact Fr.app N450 N466q
    have z490 := K466q.1
    have K466 : Keep h0 T466.heap [] := K450.trans K466q (allS (Or.inr (by omega)) all0)
    have z491 := own_lt f471.lt
    have z492 := own_lt f472.lt
    have z493 := own_lt f473.lt
    have z494 := own_lt f474.lt
    have z495 := own_lt f475.lt
    have z496 := own_lt f476.lt
    have z497 := own_lt f477.lt
    have z498 := own_lt f478.lt
    have z499 := own_lt f479.lt
    have z500 := own_lt f480.lt
    have z501 := own_lt f481.lt
    have z502 := own_lt f482.lt
    have z503 := own_lt f483.lt
    have z504 := own_lt f484.lt
    simp only [own_lts, and_true] at f489
    refine own_go (fun _ k => st466.trans k) ?_
    show own_Go _ _ _ _ T466 (mkF m 92 #[.val (.int p_1), .val (.int 1), .val (.ref b238), .val (.int 0), .val (.int 1), .val (.int 1), .val (.int 2), .val (.int 3), .unset, .unset] [(.int 0)])
    refine own_go (fun _ k => XS.istore X466.here hx rfl (hb hby at_92) rfl (l' := #[.val (.int p_1), .val (.int 1), .val (.ref b238), .val (.int 0), .val (.int 1), .val (.int 1), .val (.int 2), .val (.int 3), .val (.int 0), .unset]) rfl (XS.aloadN X466.here hx rfl (hb hby at_94) rfl rfl (XS.iconst X466.here hx rfl (hb hby at_95) k))) ?_
    obtain ⟨T505, h505, k505, X505, e505, E505, A505, st505⟩ := newP X466 hx hZ (hw _ (List.mem_of_getElem? (i := 9) rfl)) rfl (g := (mkF m 96 #[.val (.int p_1), .val (.int 1), .val (.ref b238), .val (.int 0), .val (.int 1), .val (.int 1), .val (.int 2), .val (.int 3), .val (.int 0), .unset] [(.int 1), (.ref b238)])) rfl (hb hby at_96) rfl (by decide) (cap := 1) (by decide) (by decide) (by rw [y466]; decide) (by rw [z466]; decide)
    obtain ⟨b505, g505⟩ : ∃ z, z = T466.heap.size := ⟨_, rfl⟩
    rw [← g505] at A505 st505
    have z506 := E505.1
    have lt_b505 := own_lt A505.lt
    have K505 : Keep h0 h505 [] := K466.ext E505
    have V_b505 : own_AV Z h505 b505 .int 1 (fun _ => (.int 0)) := own_AV.new A505 (by decide)
    refine own_go (fun _ k => st505 _ k) ?_
    show own_Go _ _ _ _ T505 (mkF m 98 #[.val (.int p_1), .val (.int 1), .val (.ref b238), .val (.int 0), .val (.int 1), .val (.int 1), .val (.int 2), .val (.int 3), .val (.int 0), .unset] [(.ref b505), (.ref b238)])
    refine own_go (fun _ k => XS.dup X505.here hx rfl (hb hby at_98) rfl rfl (XS.iconst X505.here hx rfl (hb hby at_99) (XS.iloadN X505.here hx rfl (hb hby at_100) rfl k))) ?_
    obtain ⟨q507, c507, R507, s507, t507⟩ := id V_b505
    have hin507 : ¬ ((0 : Int32) < 0 ∨ c507.slots.size ≤ ((0 : Int32)).toNatClampNeg) := inb_of s507 ⟨by decide, by decide⟩
    obtain ⟨T508, h508, X508, e508, W508, st508⟩ := stI X505 hx hZ e505 R507 (j := (0 : Int32)) hin507 (g := (mkF m 101 #[.val (.int p_1), .val (.int 1), .val (.ref b238), .val (.int 0), .val (.int 1), .val (.int 1), .val (.int 2), .val (.int 3), .val (.int 0), .unset] [(.int 0), (.int 0), (.ref b505), (.ref b505), (.ref b238)])) rfl rfl (hb hby at_101)
    have V508 : own_AV Z h508 b505 .int 1 (own_upd (fun _ => (.int 0)) 0 (.int 0)) := own_AV.set (k := 0) V_b505 W508 (by decide)
    have z509 := W508.size
    have K508 : Keep h0 h508 [] := K505.wr W508 (Or.inr (by omega))
    have N508 := Fr.snoc X508 N466 (by omega : n0 ≤ b505)
    refine own_go (fun _ k => st508 _ k) ?_
    show own_Go _ _ _ _ T508 (mkF m 102 #[.val (.int p_1), .val (.int 1), .val (.ref b238), .val (.int 0), .val (.int 1), .val (.int 1), .val (.int 2), .val (.int 3), .val (.int 0), .unset] [(.ref b505), (.ref b238)])
    refine own_go (fun _ k => XS.iload X508.here hx rfl (hb hby at_102) rfl k) ?_
    have f510 := (((f452.keep K466q (ninS (own_ne (by omega)) nin0)).ext E505).other W508 (own_ne (by omega)))
    have f511 := (((f453.keep K466q (ninS (own_ne (by omega)) nin0)).ext E505).other W508 (own_ne (by omega)))
    have f512 := ((f483.ext E505).other W508 (own_ne (by omega)))
    have f513 := ((f484.ext E505).other W508 (own_ne (by omega)))
    have f514 := ((f471.ext E505).wr W508)
    have f515 := ((f473.ext E505).other W508 (Or.inl (own_ne (by omega))))
    have f516 := ((f474.ext E505).other W508 (Or.inl (own_ne (by omega))))
    have f517 := ((f477.ext E505).other W508 (Or.inl (own_ne (by omega))))
    have f518 := ((f478.ext E505).other W508 (Or.inl (own_ne (by omega))))
    have f519 := ((f479.ext E505).other W508 (Or.inl (own_ne (by omega))))
    have f520 := ((f480.ext E505).other W508 (Or.inl (own_ne (by omega))))
    obtain ⟨cq521, kq521, q521a, q521b, q521c⟩ := isOf hZ e508 f514
    obtain ⟨_, _, ⟨T521, L521, k521, n521⟩, -, X521, hS521, gr521, ⟨Lc521, hQ521, l521, y521, z521⟩, st521⟩ := X508.virtualBackS hx (y := (⟨own_N1, "implies", "([II)Z"⟩ : MethodName)) (z := (⟨own_N1, "implies", "([II)Z"⟩ : MethodName)) hown (mvT hZ (hw _ (List.mem_of_getElem? (i := 57) rfl))) (mvT hZ (hw _ (List.mem_of_getElem? (i := 58) rfl))) (notFace_of_selects (args := #[]) (mvT hZ (hw _ (List.mem_of_getElem? (i := 60) rfl)))) (mvT hZ (hw _ (List.mem_of_getElem? (i := 60) rfl))) (mvT hZ (hw _ (List.mem_of_getElem? (i := 59) rfl))) (by decide) (backOfS (W := 0) (own_rm8_s2 l Z a0 hw [] b238 b505 x_242 x_243 x_469 x_470 h508 n0 (by omega) V508 f510 f511 f512 f513 f514 f515 f516 f517 f518 f519 f520 (by simp only [own_lts, and_true]; omega)) hZ (hw _ (List.mem_of_getElem? (i := 61) rfl)) (own_w2 hw) (by decide) (by decide)) q521a q521c (g := (mkF m 104 #[.val (.int p_1), .val (.int 1), .val (.ref b238), .val (.int 0), .val (.int 1), .val (.int 1), .val (.int 2), .val (.int 3), .val (.int 0), .unset] [(.int 1), (.ref b505), (.ref b238)])) rfl (by rw [hml]; rfl) (Steps.refl _) (argsL := [(.ref b505), (.int 1)]) (rest := []) (lenOf own_pd16 rfl) rfl (by show 2 * 0 + _ ≤ _; exact Nat.le_of_eq rfl) (hb hby at_104) (fun _ _ => ⟨rfl, e508, (by show k466 + 1 + _ ≤ _; rw [y466]; decide), (by show n466 + 1 + _ ≤ _; rw [z466]; decide)⟩)
    dsimp only [Pt.U, Pt.locs, Pt.cells, Pt.slots] at X521 l521 y521 z521 st521 hQ521 hS521 gr521
    have y521 : k521 = 55 := own_addeq y521 (congrArg (fun q => q + 1) y466) rfl
    have z521 : n521 = 565 := own_addeq z521 (congrArg (fun q => q + 1) z466) rfl
    have Wn521 := hS521.1
    obtain ⟨X521, hS521, hZ, hown⟩ := rebS hS466 (n1 := T508.heap.size) (by rw [e508]; omega) X521 hS521 gr521 hZ hown
    obtain ⟨rfl, N521q, K521q⟩ := hQ521
    have N521 : Fr n0 L521 := by rw [l521]; exact Fr.app N508 N521q
    have z522 := K521q.1
    have K521 : Keep h0 T521.heap [] := K508.trans K521q all0
    refine own_go (fun _ k => st521.trans k) ?_
    show own_Go _ _ _ _ T521 (mkF m 107 #[.val (.int p_1), .val (.int 1), .val (.ref b238), .val (.int 0), .val (.int 1), .val (.int 1), .val (.int 2), .val (.int 3), .val (.int 0), .unset] [(.int 1)])
    refine own_go (fun _ k => XS.istore X521.here hx rfl (hb hby at_107) rfl (l' := #[.val (.int p_1), .val (.int 1), .val (.ref b238), .val (.int 0), .val (.int 1), .val (.int 1), .val (.int 2), .val (.int 3), .val (.int 0), .val (.int 1)]) rfl (XS.iloadN X521.here hx rfl (hb hby at_109) rfl k)) ?_
    have hc523 : (0 : Int32) = 0 := by decide
    refine own_go (fun _ k => XS.ifNo X521.here hx rfl (hb hby at_110) rfl (Jvm.Free.XT.i0_ne_f hc523) (XS.iload X521.here hx rfl (hb hby at_113) rfl (XS.iconst X521.here hx rfl (hb hby at_115) k))) ?_
    have hc524 : (1 : Int32) = (1 : Int32) := by decide
    refine own_go (fun _ k => XS.icmpNo X521.here hx rfl (hb hby at_116) rfl (Jvm.Free.XT.ii_ne_f hc524) (XS.iload X521.here hx rfl (hb hby at_119) rfl (XS.iconst X521.here hx rfl (hb hby at_121) k))) ?_
    have hc525 : (2 : Int32) = (2 : Int32) := by decide
    refine own_go (fun _ k => XS.icmpNo X521.here hx rfl (hb hby at_122) rfl (Jvm.Free.XT.ii_ne_f hc525) (XS.iload X521.here hx rfl (hb hby at_125) rfl (XS.iconst X521.here hx rfl (hb hby at_127) k))) ?_
    have hc526 : (3 : Int32) = (3 : Int32) := by decide
    refine own_go (fun _ k => XS.icmpNo X521.here hx rfl (hb hby at_128) rfl (Jvm.Free.XT.ii_ne_f hc526) (XS.iload X521.here hx rfl (hb hby at_131) rfl k)) ?_
    have hc527 : ¬ ((1 : Int32) = 0) := by decide
    refine own_go (fun _ k => XS.ifNo X521.here hx rfl (hb hby at_133) rfl (Jvm.Free.XT.i0_eq_f hc527) (XS.iload X521.here hx rfl (hb hby at_136) rfl k)) ?_
    have hc528 : (0 : Int32) = 0 := by decide
    refine own_go (fun _ k => XS.ifNo X521.here hx rfl (hb hby at_138) rfl (Jvm.Free.XT.i0_ne_f hc528) (XS.iload X521.here hx rfl (hb hby at_141) rfl k)) ?_
    have hc529 : ¬ ((1 : Int32) = 0) := by decide
    refine own_go (fun _ k => XS.ifNo X521.here hx rfl (hb hby at_143) rfl (Jvm.Free.XT.i0_eq_f hc529) (XS.iconst X521.here hx rfl (hb hby at_146) (XS.goto X521.here hx rfl (pc0 := 147) (pc' := 151) rfl (hb hby at_147) (by decide) (by decide) k))) ?_
    show own_Go _ _ _ _ T521 (mkF m 151 #[.val (.int p_1), .val (.int 1), .val (.ref b238), .val (.int 0), .val (.int 1), .val (.int 1), .val (.int 2), .val (.int 3), .val (.int 0), .val (.int 1)] [(.int 1)])
    obtain ⟨fs, hr, hrun, hended, hRW⟩ := X521.leaveW hS521 (by omega) (v := some (.int 1)) (fun h => by rw [Bd.returns] at h; cases h)
    refine ⟨_, _, retOut X521 hx Bd.returns rfl (Or.inl ⟨rfl, Or.inr (Or.inl rfl), _, rfl⟩) (hb hby at_151) hr, hrun, hended, _, _, rfl, ?_, own_monoW hRW (by rw [y521]; decide) (by rw [z521]; decide)⟩
    exact ⟨rfl, N521⟩
set_option maxRecDepth 65536 in
set_option maxHeartbeats 40000000 in
theorem comes_1 {Post : Tables → Env → Array Value → State → Outcome → State → Prop} (hpost : ∀ tb e args s v u, (limb_1_1.after args s (.returned v) u = true ∧ limb_1_2.after args s (.returned v) u = true ∧ True) → ReturnedEndW s (.returned v) u (Jvm.fieldLocs frame_1_writes args s ++ Jvm.arrayLocs frame_1_arrays args s ++ Jvm.staticLocs frame_1_statics s) 88 1664 → Post tb e args s (.returned v) u) :
    ArmFor flags0 classFile x code maxLocals ret World_1 tables_1 room_1 Calls_1 rest_1 Pre_1 Post := by
  intro l hfl _ _ p e ha hc hk s m args below hf hA hF happ hP
  obtain ⟨hcalls, hrest, hpre⟩ := hP
  obtain ⟨-, -, -, hnamed, -, -, -, hat⟩ := (Spec.applies_iff hf).mp happ
  obtain ⟨hg, hn⟩ := and_e (Cond.before_iff.mp (show (Jvm.Cond.and given_1 narrow_1).before args s = true from hpre))
  obtain ⟨g1, g2⟩ := and_e hg
  obtain ⟨w0, rfl⟩ : ∃ w0 : Value, args = #[w0] := by
    have hs : args.size = 1 := by simpa [Cond.value, given_1] using g1
    obtain ⟨L⟩ := args
    match L, hs with
    | [w0], _ => exact ⟨w0, rfl⟩
  have hw := fun d (hd : d ∈ tables_1) => atoms_spec (ws := Jvm.Cond.code x code maxLocals ret :: tables_1) hat d (List.mem_cons_of_mem _ hd)
  have hfit : Fit s := fun {y c} hc i hi => by
    obtain ⟨ha, rfl⟩ := Array.getElem?_eq_some_iff.mp hc
    have q := List.all_eq_true.mp ((Array.all_eq_true_iff_forall_mem.mp hF) _ (Array.getElem_mem ha)) i (List.mem_range.mpr hi)
    simpa [Array.getElem?_eq_getElem hi] using q
  obtain ⟨i0, ei0⟩ := is_v g2
  obtain rfl : w0 = (.int i0) := Option.some.inj ei0
  obtain ⟨g_lam, hL⟩ := own_LMx.start (x := own_x) (pc := 65) (index := 199) (σ := own_sig) (hw _ (List.mem_of_getElem? (i := 77) rfl)) rfl
  have hL : own_LM s s.heap g_lam := hL
  obtain ⟨n, o, h1, h2, h3, _, L, rfl, ⟨rfl, N⟩, hq⟩ := own_rm0 l s _ hw tables_1 i0 g_lam s.heap s.heap.size (Nat.le_refl _) hL (by simp only [own_lts, and_true]; exact hL.lt) p e ha hc hk s m _ below hf ((Spec.applies_iff_loose hf).mp happ).1 ⟨rfl, State.Warmed39.refl s, rfl⟩ trivial
  refine ⟨n, _, h1, h2, h3, hpost _ _ _ _ _ _ ⟨Cond.after_iff.mpr rfl, Cond.after_iff.mpr (eq_i res_at (Term.int_eval (1)) rfl), trivial⟩ ⟨hq.1, hq.2.1, hq.2.2.1, (hq.2.2.2.sift fun y hy => Or.inr (N y hy)).mono (by decide) (by decide)⟩⟩
theorem main_1_1 : Claimed_1_1 := comes_1 fun _ _ _ _ _ _ h hF => ⟨h.1, hF⟩
theorem main_1_2 : Claimed_1_2 := comes_1 fun _ _ _ _ _ _ h hF => ⟨h.2.1, hF⟩
end Jvm.Pilot.@@N@@
namespace Jvm.Pilot.@@N@@
open Jvm Jvm.ClassFile Sem Op Lib Jvm.Free Jvm.Stand Jvm.Pilot.@@N@@.Jvm.D
/-! MADE BY PROGRAM (witnessworld.py) out of the Statement's table words and the real class files: 23 classes; the members and pool entries that the words name. The judged class is class 1, her method 1. -/
namespace start1
open Jvm.ClassFile
def u (s : String) : CpInfo := .utf8 (stringToUtf16 s)
/-- a pool by its gaps: so many unusable entries, then the entry; so many at the end -/
def gap : Nat → List CpInfo → List CpInfo
  | 0, r => r
  | n + 1, r => .unusable :: gap n r
def poolList (es : List (Nat × CpInfo)) (last : Nat) : List CpInfo := es.foldr (fun e r => gap e.1 (e.2 :: r)) (gap last [])
def pool (es : List (Nat × CpInfo)) (last : Nat) : Array CpInfo := ⟨poolList es last⟩
def fileOf (pool : Array CpInfo) (this : Nat) (attrs : Array Attribute := #[]) (ms : Array MethodInfo := #[]) (fl : Nat := 33) (sup : Nat := 0) (ifs : Array Nat := #[]) (fds : Array FieldInfo := #[]) : ClassFile where
  minorVersion := 0
  majorVersion := 65
  constantPool := pool
  accessFlags := fl
  thisClass := this
  superClass := sup
  interfaces := ifs
  fields := fds
  methods := ms
  attributes := attrs
def plain (name : String) (sup : Option ClassId) : Class where
  name := name
  kind := .ordinary
  loader := none
  accessFlags := 33
  super := sup
  interfaces := #[]
  cf := none
  fields := #[]
  methods := #[]
  instanceTypes := #[]
  staticTypes := #[]
  resolved := #[]
  callSites := []
  init := .initialized
  statics := none
  mirror := none

def pool0 : Array CpInfo := pool [(5, u "<init>"), (0, u "()V"), (1, .class_ 10), (1, u "java/lang/Object")] 113

def k0c0 : Code := { maxStack := 0, maxLocals := 1, code := object_method_1_code, exceptionTable := #[], attributes := #[] }
def k0m0 : Method := { name := "<init>", desc := "()V", sig := { parameters := [], returnType := none }, accessFlags := 1, code := some k0c0 }
/-- java/lang/Object -/
def k0 : Class := { plain "java/lang/Object" none with
  accessFlags := 33
  interfaces := #[]
  cf := some (fileOf pool0 8 #[] #[{ accessFlags := 1, nameIndex := 5, descriptorIndex := 6, attributes := #[] }] 33 0 #[] #[])
  fields := #[]
  methods := #[k0m0]
  instanceTypes := #[]
  staticTypes := #[]
  resolved := Array.replicate 124 none
  statics := none }

def pool1 : Array CpInfo := pool [(2, .class_ 4), (0, .nameAndType 5 6), (0, u "java/lang/Object"), (0, u "<init>"), (0, u "()V"), (0, .class_ 8), (0, u "com/example/kalchas/kalchas/propositional/HornClauses"), (0, .methodref 7 3), (0, .methodref 7 11), (0, .nameAndType 12 13), (0, u "newVariable"), (0, u "()I"), (0, .methodref 7 15), (0, .nameAndType 16 17), (0, u "add"), (0, u "(I[I)V"), (0, .methodref 7 19), (0, .nameAndType 20 21), (0, u "implies"), (0, u "([II)Z"), (0, .methodref 7 23), (0, .nameAndType 24 13), (0, u "variableCount"), (0, .class_ 26), (0, u "com/example/kalchas/kalchas/propositional/HornClausesNewVariablePinLaw"), (2, u "law"), (0, u "(I)Z")] 3

def k1m0 : Method := { name := "<init>", desc := "()V", sig := { parameters := [], returnType := none }, accessFlags := 1, code := none }
def k1c1 : Code := { maxStack := 6, maxLocals := 10, code := code, exceptionTable := #[], attributes := #[] }
def k1m1 : Method := { name := "law", desc := "(I)Z", sig := { parameters := [.int], returnType := some .boolean }, accessFlags := 9, code := some k1c1 }
/-- com/example/kalchas/kalchas/propositional/HornClausesNewVariablePinLaw -/
def k1 : Class := { plain "com/example/kalchas/kalchas/propositional/HornClausesNewVariablePinLaw" (some 0) with
  accessFlags := 49
  interfaces := #[]
  cf := some (fileOf pool1 25 #[] #[{ accessFlags := 1, nameIndex := 5, descriptorIndex := 6, attributes := #[] }, { accessFlags := 9, nameIndex := 29, descriptorIndex := 30, attributes := #[] }] 49 2 #[] #[])
  fields := #[]
  methods := #[k1m0, k1m1]
  instanceTypes := #[]
  staticTypes := #[]
  resolved := Array.replicate 34 none
  statics := none }

def pool2 : Array CpInfo := pool [(1, .methodref 2 3), (0, .class_ 4), (0, .nameAndType 5 6), (0, u "java/lang/Object"), (0, u "<init>"), (0, u "()V"), (0, .class_ 8), (0, u "com/example/kalchas/kalchas/propositional/HornClauses"), (0, .fieldref 7 10), (0, .nameAndType 11 12), (0, u "heads"), (0, u "[I"), (0, .fieldref 7 14), (0, .nameAndType 15 12), (0, u "bodyStarts"), (0, .fieldref 7 17), (0, .nameAndType 18 12), (0, u "bodies"), (0, .fieldref 7 20), (0, .nameAndType 21 12), (0, u "occurrences"), (0, .fieldref 7 23), (0, .nameAndType 24 25), (0, u "variableCount"), (0, u "I"), (0, .methodref 7 27), (0, .nameAndType 28 29), (0, u "checkVariable"), (0, u "(I)V"), (0, .fieldref 7 31), (0, .nameAndType 32 25), (0, u "clauseCount"), (0, .methodref 34 35), (0, .class_ 36), (0, .nameAndType 37 38), (0, u "java/util/Arrays"), (0, u "copyOf"), (0, u "([II)[I"), (6, .methodref 46 47), (0, .class_ 48), (0, .nameAndType 49 50), (0, u "java/lang/System"), (0, u "arraycopy"), (0, u "(Ljava/lang/Object;ILjava/lang/Object;II)V"), (7, .methodref 7 59), (0, .nameAndType 60 6), (0, u "index"), (16, u "add"), (15, u "()I"), (0, .fieldref 7 95), (0, .nameAndType 96 12), (0, u "derivationStarts"), (0, .fieldref 7 98), (0, .nameAndType 99 12), (0, u "derivations"), (0, .methodref 7 101), (0, .nameAndType 102 103), (0, u "propagate"), (0, u "([II)Lcom/example/kalchas/kalchas/propositional/HornClauses$Trail;"), (0, .methodref 105 106), (0, .class_ 107), (0, .nameAndType 108 109), (0, u "com/example/kalchas/kalchas/propositional/HornClauses$Trail"), (0, u "isTrue"), (0, u "(I)Z"), (27, u "(I)I"), (2, u "get"), (23, .methodref 105 165), (0, .nameAndType 5 29), (0, .methodref 105 167), (0, .nameAndType 168 169), (0, u "assign"), (0, u "(II)V"), (0, .methodref 105 171), (0, .nameAndType 172 93), (0, u "size"), (0, .methodref 105 174), (0, .nameAndType 140 137), (0, .fieldref 7 176), (0, .nameAndType 177 12), (0, u "occurrenceStarts"), (0, .string 179), (0, u "variable"), (0, .methodref 7 181), (0, .nameAndType 182 183), (0, u "checkNumber"), (0, u "(Ljava/lang/String;II)V"), (11, .methodref 34 196), (0, .nameAndType 197 198), (0, u "fill"), (0, u "([IIII)V"), (0, .invokeDynamic 2 200), (0, .nameAndType 201 202), (0, u "applyAsInt"), (0, u "()Ljava/util/function/IntUnaryOperator;"), (0, .methodref 34 204), (0, .nameAndType 205 206), (0, u "setAll"), (0, u "([ILjava/util/function/IntUnaryOperator;)V"), (0, .methodref 7 208), (0, .nameAndType 209 210), (0, u "groupByVariable"), (0, u "([I[II[I)[I"), (3, u "INITIAL_CAPACITY"), (2, u "ASSUMED"), (3, u "newVariable"), (0, u "(I[I)V"), (5, u "implies"), (0, u "([II)Z"), (3, u "lambda$index$1"), (15, .methodType 137), (0, .methodHandle 6 251), (0, .methodref 7 252), (0, .nameAndType 233 137), (0, .methodHandle 6 254), (0, .methodref 255 256), (0, .class_ 257), (0, .nameAndType 258 259), (0, u "java/lang/invoke/LambdaMetafactory"), (0, u "metafactory"), (0, u "(Ljava/lang/invoke/MethodHandles$Lookup;Ljava/lang/String;Ljava/lang/invoke/MethodType;Ljava/lang/invoke/MethodType;Ljava/lang/invoke/MethodHandle;Ljava/lang/invoke/MethodType;)Ljava/lang/invoke/CallSite;")] 13

def k2c0 : Code := { maxStack := 2, maxLocals := 1, code := prog_6_method_1_code, exceptionTable := #[], attributes := #[] }
def k2m0 : Method := { name := "<init>", desc := "()V", sig := { parameters := [], returnType := none }, accessFlags := 1, code := some k2c0 }
def k2c1 : Code := { maxStack := 3, maxLocals := 2, code := prog_6_method_2_code, exceptionTable := #[], attributes := #[] }
def k2m1 : Method := { name := "newVariable", desc := "()I", sig := { parameters := [], returnType := some .int }, accessFlags := 1, code := some k2c1 }
def k2c2 : Code := { maxStack := 1, maxLocals := 1, code := prog_6_method_3_code, exceptionTable := #[], attributes := #[] }
def k2m2 : Method := { name := "variableCount", desc := "()I", sig := { parameters := [], returnType := some .int }, accessFlags := 1, code := some k2c2 }
def k2c3 : Code := { maxStack := 5, maxLocals := 7, code := prog_6_method_4_code, exceptionTable := #[], attributes := #[] }
def k2m3 : Method := { name := "add", desc := "(I[I)V", sig := { parameters := [.int, (.array .int)], returnType := none }, accessFlags := 129, code := some k2c3 }
def k2c4 : Code := { maxStack := 3, maxLocals := 3, code := prog_6_method_8_code, exceptionTable := #[], attributes := #[] }
def k2m4 : Method := { name := "implies", desc := "([II)Z", sig := { parameters := [(.array .int), .int], returnType := some .boolean }, accessFlags := 1, code := some k2c4 }
def k2c5 : Code := { maxStack := 5, maxLocals := 9, code := prog_6_method_13_code, exceptionTable := #[], attributes := #[] }
def k2m5 : Method := { name := "propagate", desc := "([II)Lcom/example/kalchas/kalchas/propositional/HornClauses$Trail;", sig := { parameters := [(.array .int), .int], returnType := some (.object "com/example/kalchas/kalchas/propositional/HornClauses$Trail") }, accessFlags := 2, code := some k2c5 }
def k2c6 : Code := { maxStack := 3, maxLocals := 2, code := prog_6_method_14_code, exceptionTable := #[], attributes := #[] }
def k2m6 : Method := { name := "checkVariable", desc := "(I)V", sig := { parameters := [.int], returnType := none }, accessFlags := 1, code := some k2c6 }
def k2c7 : Code := { maxStack := 5, maxLocals := 3, code := prog_6_method_16_code, exceptionTable := #[], attributes := #[] }
def k2m7 : Method := { name := "checkNumber", desc := "(Ljava/lang/String;II)V", sig := { parameters := [(.object "java/lang/String"), .int, .int], returnType := none }, accessFlags := 10, code := some k2c7 }
def k2c8 : Code := { maxStack := 6, maxLocals := 6, code := prog_6_method_17_code, exceptionTable := #[], attributes := #[] }
def k2m8 : Method := { name := "index", desc := "()V", sig := { parameters := [], returnType := none }, accessFlags := 2, code := some k2c8 }
def k2c9 : Code := { maxStack := 5, maxLocals := 8, code := prog_6_method_18_code, exceptionTable := #[], attributes := #[] }
def k2m9 : Method := { name := "groupByVariable", desc := "([I[II[I)[I", sig := { parameters := [(.array .int), (.array .int), .int, (.array .int)], returnType := some (.array .int) }, accessFlags := 2, code := some k2c9 }
def k2c10 : Code := { maxStack := 1, maxLocals := 1, code := prog_6_method_19_code, exceptionTable := #[], attributes := #[] }
def k2m10 : Method := { name := "lambda$index$1", desc := "(I)I", sig := { parameters := [.int], returnType := some .int }, accessFlags := 4106, code := some k2c10 }
/-- com/example/kalchas/kalchas/propositional/HornClauses -/
def k2 : Class := { plain "com/example/kalchas/kalchas/propositional/HornClauses" (some 0) with
  accessFlags := 33
  interfaces := #[]
  cf := some (fileOf pool2 7 #[.nestMembers #[105], .bootstrapMethods #[⟨0, #[]⟩, ⟨0, #[]⟩, ⟨253, #[249, 250, 249]⟩]] #[{ accessFlags := 1, nameIndex := 5, descriptorIndex := 6, attributes := #[] }, { accessFlags := 1, nameIndex := 221, descriptorIndex := 93, attributes := #[] }, { accessFlags := 1, nameIndex := 24, descriptorIndex := 93, attributes := #[] }, { accessFlags := 129, nameIndex := 77, descriptorIndex := 222, attributes := #[] }, { accessFlags := 1, nameIndex := 228, descriptorIndex := 229, attributes := #[] }, { accessFlags := 2, nameIndex := 102, descriptorIndex := 103, attributes := #[] }, { accessFlags := 1, nameIndex := 28, descriptorIndex := 29, attributes := #[] }, { accessFlags := 10, nameIndex := 182, descriptorIndex := 183, attributes := #[] }, { accessFlags := 2, nameIndex := 60, descriptorIndex := 6, attributes := #[] }, { accessFlags := 2, nameIndex := 209, descriptorIndex := 210, attributes := #[] }, { accessFlags := 4106, nameIndex := 233, descriptorIndex := 137, attributes := #[] }] 33 2 #[] #[{ accessFlags := 26, nameIndex := 214, descriptorIndex := 25, attributes := #[] }, { accessFlags := 26, nameIndex := 217, descriptorIndex := 25, attributes := #[] }, { accessFlags := 2, nameIndex := 24, descriptorIndex := 25, attributes := #[] }, { accessFlags := 2, nameIndex := 32, descriptorIndex := 25, attributes := #[] }, { accessFlags := 2, nameIndex := 11, descriptorIndex := 12, attributes := #[] }, { accessFlags := 2, nameIndex := 15, descriptorIndex := 12, attributes := #[] }, { accessFlags := 2, nameIndex := 18, descriptorIndex := 12, attributes := #[] }, { accessFlags := 2, nameIndex := 177, descriptorIndex := 12, attributes := #[] }, { accessFlags := 2, nameIndex := 21, descriptorIndex := 12, attributes := #[] }, { accessFlags := 2, nameIndex := 96, descriptorIndex := 12, attributes := #[] }, { accessFlags := 2, nameIndex := 99, descriptorIndex := 12, attributes := #[] }])
  fields := #[{ name := "INITIAL_CAPACITY", type := .int, accessFlags := 26, slot := 0, constantValue := 0 }, { name := "ASSUMED", type := .int, accessFlags := 26, slot := 1, constantValue := 0 }, { name := "variableCount", type := .int, accessFlags := 2, slot := 0, constantValue := 0 }, { name := "clauseCount", type := .int, accessFlags := 2, slot := 1, constantValue := 0 }, { name := "heads", type := (.array .int), accessFlags := 2, slot := 2, constantValue := 0 }, { name := "bodyStarts", type := (.array .int), accessFlags := 2, slot := 3, constantValue := 0 }, { name := "bodies", type := (.array .int), accessFlags := 2, slot := 4, constantValue := 0 }, { name := "occurrenceStarts", type := (.array .int), accessFlags := 2, slot := 5, constantValue := 0 }, { name := "occurrences", type := (.array .int), accessFlags := 2, slot := 6, constantValue := 0 }, { name := "derivationStarts", type := (.array .int), accessFlags := 2, slot := 7, constantValue := 0 }, { name := "derivations", type := (.array .int), accessFlags := 2, slot := 8, constantValue := 0 }]
  methods := #[k2m0, k2m1, k2m2, k2m3, k2m4, k2m5, k2m6, k2m7, k2m8, k2m9, k2m10]
  instanceTypes := #[.int, .int, (.array .int), (.array .int), (.array .int), (.array .int), (.array .int), (.array .int), (.array .int)]
  staticTypes := #[.int, .int]
  resolved := Array.replicate 273 none
  callSites := [(8, 65, .constant 0)]
  statics := none }

def pool3 : Array CpInfo := pool [(1, .class_ 2), (0, u "java/io/Serializable"), (0, .class_ 4), (0, u "java/lang/Object")] 2

/-- java/io/Serializable -/
def k3 : Class := { plain "java/io/Serializable" (some 0) with
  accessFlags := 1537
  interfaces := #[]
  cf := some (fileOf pool3 1 #[] #[] 1537 3 #[] #[])
  fields := #[]
  methods := #[]
  instanceTypes := #[]
  staticTypes := #[]
  resolved := Array.replicate 7 none
  statics := none }

def pool4 : Array CpInfo := pool [(1, .class_ 2), (0, u "java/lang/Comparable"), (0, .class_ 4), (0, u "java/lang/Object")] 7

/-- java/lang/Comparable -/
def k4 : Class := { plain "java/lang/Comparable" (some 0) with
  accessFlags := 1537
  interfaces := #[]
  cf := some (fileOf pool4 1 #[] #[] 1537 3 #[] #[])
  fields := #[]
  methods := #[]
  instanceTypes := #[]
  staticTypes := #[]
  resolved := Array.replicate 12 none
  statics := none }

def pool5 : Array CpInfo := pool [(2, .class_ 4), (1, u "java/lang/CharSequence"), (42, .class_ 48), (0, u "java/lang/CharSequence$1CodePointIterator"), (10, .class_ 60), (0, u "java/lang/CharSequence$1CharIterator"), (5, .class_ 67), (0, u "java/lang/Object")] 63

/-- java/lang/CharSequence -/
def k5 : Class := { plain "java/lang/CharSequence" (some 0) with
  accessFlags := 1537
  interfaces := #[]
  cf := some (fileOf pool5 2 #[.nestMembers #[47, 59]] #[] 1537 66 #[] #[])
  fields := #[]
  methods := #[]
  instanceTypes := #[]
  staticTypes := #[]
  resolved := Array.replicate 131 none
  statics := none }

def pool6 : Array CpInfo := pool [(1, .class_ 2), (0, u "java/lang/constant/Constable"), (0, .class_ 4), (0, u "java/lang/Object")] 6

/-- java/lang/constant/Constable -/
def k6 : Class := { plain "java/lang/constant/Constable" (some 0) with
  accessFlags := 1537
  interfaces := #[]
  cf := some (fileOf pool6 1 #[] #[] 1537 3 #[] #[])
  fields := #[]
  methods := #[]
  instanceTypes := #[]
  staticTypes := #[]
  resolved := Array.replicate 11 none
  statics := none }

def pool7 : Array CpInfo := pool [(1, .class_ 2), (0, u "java/lang/constant/ConstantDesc"), (0, .class_ 4), (0, u "java/lang/Object")] 32

/-- java/lang/constant/ConstantDesc -/
def k7 : Class := { plain "java/lang/constant/ConstantDesc" (some 0) with
  accessFlags := 1537
  interfaces := #[]
  cf := some (fileOf pool7 1 #[] #[] 1537 3 #[] #[])
  fields := #[]
  methods := #[]
  instanceTypes := #[]
  staticTypes := #[]
  resolved := Array.replicate 37 none
  statics := none }

def pool8 : Array CpInfo := pool [(2, .class_ 4), (1, u "java/lang/Object"), (0, u "<init>"), (0, u "()V"), (3, .class_ 12), (1, u "java/lang/String"), (0, u "value"), (0, u "[B"), (2, u "coder"), (0, u "B"), (2, u "hash"), (0, u "I"), (2, u "hashIsZero"), (0, u "Z"), (13, u "COMPACT_STRINGS"), (534, .class_ 576), (0, u "java/lang/CharSequence"), (22, u "CASE_INSENSITIVE_ORDER"), (0, u "Ljava/util/Comparator;"), (500, u "serialPersistentFields"), (0, u "[Ljava/io/ObjectStreamField;"), (0, .class_ 1104), (0, u "java/lang/String$CaseInsensitiveComparator"), (1, .class_ 1107), (0, u "java/io/Serializable"), (0, .class_ 1109), (0, u "java/lang/Comparable"), (0, .class_ 1111), (0, u "java/lang/constant/Constable"), (0, .class_ 1113), (0, u "java/lang/constant/ConstantDesc"), (2, u "serialVersionUID"), (0, u "J"), (3, u "REPL"), (0, u "C"), (2, u "LATIN1"), (1, u "UTF16")] 323

def k8m0 : Method := { name := "<init>", desc := "()V", sig := { parameters := [], returnType := none }, accessFlags := 1, code := none }
/-- java/lang/String -/
def k8 : Class := { plain "java/lang/String" (some 0) with
  accessFlags := 49
  interfaces := #[3, 4, 5, 6, 7]
  cf := some (fileOf pool8 10 #[.nestMembers #[1103]] #[{ accessFlags := 1, nameIndex := 5, descriptorIndex := 6, attributes := #[] }] 49 2 #[1106, 1108, 575, 1110, 1112] #[{ accessFlags := 18, nameIndex := 13, descriptorIndex := 14, attributes := #[] }, { accessFlags := 18, nameIndex := 17, descriptorIndex := 18, attributes := #[] }, { accessFlags := 2, nameIndex := 21, descriptorIndex := 22, attributes := #[] }, { accessFlags := 2, nameIndex := 25, descriptorIndex := 26, attributes := #[] }, { accessFlags := 26, nameIndex := 1116, descriptorIndex := 1117, attributes := #[] }, { accessFlags := 24, nameIndex := 40, descriptorIndex := 26, attributes := #[] }, { accessFlags := 26, nameIndex := 1101, descriptorIndex := 1102, attributes := #[] }, { accessFlags := 26, nameIndex := 1121, descriptorIndex := 1122, attributes := #[] }, { accessFlags := 25, nameIndex := 599, descriptorIndex := 600, attributes := #[] }, { accessFlags := 24, nameIndex := 1125, descriptorIndex := 18, attributes := #[] }, { accessFlags := 24, nameIndex := 1127, descriptorIndex := 18, attributes := #[] }])
  fields := #[{ name := "value", type := (.array .byte), accessFlags := 18, slot := 0, constantValue := 0 }, { name := "coder", type := .byte, accessFlags := 18, slot := 1, constantValue := 0 }, { name := "hash", type := .int, accessFlags := 2, slot := 2, constantValue := 0 }, { name := "hashIsZero", type := .boolean, accessFlags := 2, slot := 3, constantValue := 0 }, { name := "serialVersionUID", type := .long, accessFlags := 26, slot := 0, constantValue := 0 }, { name := "COMPACT_STRINGS", type := .boolean, accessFlags := 24, slot := 1, constantValue := 0 }, { name := "serialPersistentFields", type := (.array (.object "java/io/ObjectStreamField")), accessFlags := 26, slot := 2, constantValue := 0 }, { name := "REPL", type := .char, accessFlags := 26, slot := 3, constantValue := 0 }, { name := "CASE_INSENSITIVE_ORDER", type := (.object "java/util/Comparator"), accessFlags := 25, slot := 4, constantValue := 0 }, { name := "LATIN1", type := .byte, accessFlags := 24, slot := 5, constantValue := 0 }, { name := "UTF16", type := .byte, accessFlags := 24, slot := 6, constantValue := 0 }]
  methods := #[k8m0]
  instanceTypes := #[(.array .byte), .byte, .int, .boolean]
  staticTypes := #[.long, .boolean, (.array (.object "java/io/ObjectStreamField")), .char, (.object "java/util/Comparator"), .byte, .byte]
  resolved := Array.replicate 1451 none
  statics := none }

def pool9 : Array CpInfo := pool [(2, .class_ 4), (1, u "java/lang/Object"), (0, u "<init>"), (0, u "()V"), (1, .class_ 10), (1, u "java/lang/System"), (0, u "allowSecurityManager"), (0, u "I"), (16, u "cons"), (0, u "Ljava/io/Console;"), (77, .class_ 110), (1, u "java/lang/System$CallersHolder"), (43, u "initialErrStream"), (0, u "Ljava/io/PrintStream;"), (19, u "security"), (0, u "Ljava/lang/SecurityManager;"), (31, .class_ 209), (0, u "java/lang/System$1"), (7, u "props"), (0, u "Ljava/util/Properties;"), (2, u "lineSeparator"), (0, u "Ljava/lang/String;"), (96, .class_ 321), (1, u "java/lang/System$LoggerFinder"), (5, .class_ 328), (0, u "java/lang/System$Logger"), (67, u "err"), (2, u "out"), (91, u "notSupportedJnuEncoding"), (15, u "in"), (17, u "initialIn"), (0, u "Ljava/io/InputStream;"), (35, u "bootLayer"), (0, u "Ljava/lang/ModuleLayer;"), (99, .class_ 664), (0, u "java/lang/System$2"), (9, u "NEVER"), (2, u "MAYBE"), (49, u "arraycopy"), (0, u "(Ljava/lang/Object;ILjava/lang/Object;II)V"), (72, .class_ 802), (0, u "java/lang/System$Logger$Level")] 31

def k9m0 : Method := { name := "<init>", desc := "()V", sig := { parameters := [], returnType := none }, accessFlags := 2, code := none }
def k9m1 : Method := { name := "arraycopy", desc := "(Ljava/lang/Object;ILjava/lang/Object;II)V", sig := { parameters := [(.object "java/lang/Object"), .int, (.object "java/lang/Object"), .int, .int], returnType := none }, accessFlags := 265, code := none }
/-- java/lang/System -/
def k9 : Class := { plain "java/lang/System" (some 0) with
  accessFlags := 49
  interfaces := #[]
  cf := some (fileOf pool9 8 #[.nestMembers #[319, 327, 801, 108, 663, 208]] #[{ accessFlags := 2, nameIndex := 5, descriptorIndex := 6, attributes := #[] }, { accessFlags := 265, nameIndex := 727, descriptorIndex := 728, attributes := #[] }] 49 2 #[] #[{ accessFlags := 25, nameIndex := 507, descriptorIndex := 526, attributes := #[] }, { accessFlags := 25, nameIndex := 399, descriptorIndex := 155, attributes := #[] }, { accessFlags := 25, nameIndex := 396, descriptorIndex := 155, attributes := #[] }, { accessFlags := 10, nameIndex := 525, descriptorIndex := 526, attributes := #[] }, { accessFlags := 26, nameIndex := 674, descriptorIndex := 12, attributes := #[] }, { accessFlags := 26, nameIndex := 677, descriptorIndex := 12, attributes := #[] }, { accessFlags := 10, nameIndex := 11, descriptorIndex := 12, attributes := #[] }, { accessFlags := 74, nameIndex := 175, descriptorIndex := 176, attributes := #[] }, { accessFlags := 10, nameIndex := 491, descriptorIndex := 222, attributes := #[] }, { accessFlags := 74, nameIndex := 29, descriptorIndex := 30, attributes := #[] }, { accessFlags := 74, nameIndex := 154, descriptorIndex := 155, attributes := #[] }, { accessFlags := 10, nameIndex := 217, descriptorIndex := 218, attributes := #[] }, { accessFlags := 10, nameIndex := 221, descriptorIndex := 222, attributes := #[] }, { accessFlags := 8, nameIndex := 562, descriptorIndex := 563, attributes := #[] }])
  fields := #[{ name := "in", type := (.object "java/io/InputStream"), accessFlags := 25, slot := 0, constantValue := 0 }, { name := "out", type := (.object "java/io/PrintStream"), accessFlags := 25, slot := 1, constantValue := 0 }, { name := "err", type := (.object "java/io/PrintStream"), accessFlags := 25, slot := 2, constantValue := 0 }, { name := "initialIn", type := (.object "java/io/InputStream"), accessFlags := 10, slot := 3, constantValue := 0 }, { name := "NEVER", type := .int, accessFlags := 26, slot := 4, constantValue := 0 }, { name := "MAYBE", type := .int, accessFlags := 26, slot := 5, constantValue := 0 }, { name := "allowSecurityManager", type := .int, accessFlags := 10, slot := 6, constantValue := 0 }, { name := "security", type := (.object "java/lang/SecurityManager"), accessFlags := 74, slot := 7, constantValue := 0 }, { name := "notSupportedJnuEncoding", type := (.object "java/lang/String"), accessFlags := 10, slot := 8, constantValue := 0 }, { name := "cons", type := (.object "java/io/Console"), accessFlags := 74, slot := 9, constantValue := 0 }, { name := "initialErrStream", type := (.object "java/io/PrintStream"), accessFlags := 74, slot := 10, constantValue := 0 }, { name := "props", type := (.object "java/util/Properties"), accessFlags := 10, slot := 11, constantValue := 0 }, { name := "lineSeparator", type := (.object "java/lang/String"), accessFlags := 10, slot := 12, constantValue := 0 }, { name := "bootLayer", type := (.object "java/lang/ModuleLayer"), accessFlags := 8, slot := 13, constantValue := 0 }]
  methods := #[k9m0, k9m1]
  instanceTypes := #[]
  staticTypes := #[(.object "java/io/InputStream"), (.object "java/io/PrintStream"), (.object "java/io/PrintStream"), (.object "java/io/InputStream"), .int, .int, .int, (.object "java/lang/SecurityManager"), (.object "java/lang/String"), (.object "java/io/Console"), (.object "java/io/PrintStream"), (.object "java/util/Properties"), (.object "java/lang/String"), (.object "java/lang/ModuleLayer")]
  resolved := Array.replicate 834 none
  statics := none }

def pool10 : Array CpInfo := pool [(2, .class_ 4), (1, u "java/lang/Object"), (0, u "<init>"), (0, u "()V"), (5, u "([IIII)V"), (0, .methodref 14 15), (0, .class_ 16), (0, .nameAndType 17 18), (0, u "java/util/Arrays"), (0, u "rangeCheck"), (0, u "(III)V"), (55, .class_ 76), (1, u "java/util/Arrays$NaturalOrder"), (36, .class_ 115), (1, u "java/util/Arrays$LegacyMergeSort"), (1, u "Z"), (32, .methodref 151 152), (0, .class_ 153), (0, .nameAndType 154 155), (0, u "java/lang/System"), (0, u "arraycopy"), (0, u "(Ljava/lang/Object;ILjava/lang/Object;II)V"), (19, .methodref 176 177), (0, .class_ 178), (0, .nameAndType 179 180), (0, u "java/util/Objects"), (0, u "requireNonNull"), (0, u "(Ljava/lang/Object;)Ljava/lang/Object;"), (121, u "copyOf"), (1, .methodref 305 306), (0, .class_ 307), (0, .nameAndType 308 309), (0, u "java/lang/Math"), (0, u "min"), (0, u "(II)I"), (65, .class_ 376), (0, u "java/util/Arrays$ArrayList"), (68, u "$assertionsDisabled"), (136, .interfaceMethodref 583 584), (0, .class_ 585), (0, .nameAndType 586 587), (0, u "java/util/function/IntUnaryOperator"), (0, u "applyAsInt"), (0, u "(I)I"), (127, u "MIN_ARRAY_SORT_GRAN"), (0, u "I"), (2, u "INSERTIONSORT_THRESHOLD"), (120, u "fill"), (30, u "([II)[I"), (35, u "setAll"), (6, u "([ILjava/util/function/IntUnaryOperator;)V"), (60, .class_ 976), (0, u "java/util/Arrays$ArrayItr")] 52

def k10m0 : Method := { name := "<init>", desc := "()V", sig := { parameters := [], returnType := none }, accessFlags := 2, code := none }
def k10c1 : Code := { maxStack := 4, maxLocals := 3, code := jdk_65_method_30_code, exceptionTable := #[], attributes := #[] }
def k10m1 : Method := { name := "rangeCheck", desc := "(III)V", sig := { parameters := [.int, .int, .int], returnType := none }, accessFlags := 8, code := some k10c1 }
def k10c2 : Code := { maxStack := 3, maxLocals := 5, code := jdk_65_method_104_code, exceptionTable := #[], attributes := #[] }
def k10m2 : Method := { name := "fill", desc := "([IIII)V", sig := { parameters := [(.array .int), .int, .int, .int], returnType := none }, accessFlags := 9, code := some k10c2 }
def k10c3 : Code := { maxStack := 6, maxLocals := 3, code := jdk_65_method_123_code, exceptionTable := #[], attributes := #[] }
def k10m3 : Method := { name := "copyOf", desc := "([II)[I", sig := { parameters := [(.array .int), .int], returnType := some (.array .int) }, accessFlags := 9, code := some k10c3 }
def k10c4 : Code := { maxStack := 4, maxLocals := 3, code := jdk_65_method_175_code, exceptionTable := #[], attributes := #[] }
def k10m4 : Method := { name := "setAll", desc := "([ILjava/util/function/IntUnaryOperator;)V", sig := { parameters := [(.array .int), (.object "java/util/function/IntUnaryOperator")], returnType := none }, accessFlags := 9, code := some k10c4 }
/-- java/util/Arrays -/
def k10 : Class := { plain "java/util/Arrays" (some 0) with
  accessFlags := 49
  interfaces := #[]
  cf := some (fileOf pool10 14 #[.nestMembers #[975, 375, 113, 74]] #[{ accessFlags := 2, nameIndex := 5, descriptorIndex := 6, attributes := #[] }, { accessFlags := 8, nameIndex := 17, descriptorIndex := 18, attributes := #[] }, { accessFlags := 9, nameIndex := 840, descriptorIndex := 12, attributes := #[] }, { accessFlags := 9, nameIndex := 302, descriptorIndex := 871, attributes := #[] }, { accessFlags := 9, nameIndex := 907, descriptorIndex := 914, attributes := #[] }] 49 2 #[] #[{ accessFlags := 26, nameIndex := 715, descriptorIndex := 716, attributes := #[] }, { accessFlags := 26, nameIndex := 719, descriptorIndex := 716, attributes := #[] }, { accessFlags := 4120, nameIndex := 445, descriptorIndex := 117, attributes := #[] }])
  fields := #[{ name := "MIN_ARRAY_SORT_GRAN", type := .int, accessFlags := 26, slot := 0, constantValue := 0 }, { name := "INSERTIONSORT_THRESHOLD", type := .int, accessFlags := 26, slot := 1, constantValue := 0 }, { name := "$assertionsDisabled", type := .boolean, accessFlags := 4120, slot := 2, constantValue := 0 }]
  methods := #[k10m0, k10m1, k10m2, k10m3, k10m4]
  instanceTypes := #[]
  staticTypes := #[.int, .int, .boolean]
  resolved := Array.replicate 1029 none
  statics := none }

def pool11 : Array CpInfo := pool [(9, u "applyAsInt"), (6, .class_ 18), (1, u "java/util/function/IntUnaryOperator"), (0, u "(I)I"), (0, .class_ 21), (0, u "java/lang/Object")] 46

def k11m0 : Method := { name := "applyAsInt", desc := "(I)I", sig := { parameters := [.int], returnType := some .int }, accessFlags := 1025, code := none }
/-- java/util/function/IntUnaryOperator -/
def k11 : Class := { plain "java/util/function/IntUnaryOperator" (some 0) with
  accessFlags := 1537
  interfaces := #[]
  cf := some (fileOf pool11 16 #[] #[{ accessFlags := 1025, nameIndex := 9, descriptorIndex := 19, attributes := #[] }] 1537 20 #[] #[])
  fields := #[]
  methods := #[k11m0]
  instanceTypes := #[]
  staticTypes := #[]
  resolved := Array.replicate 68 none
  statics := none }

def pool12 : Array CpInfo := pool [(2, .class_ 4), (1, u "java/lang/Object"), (0, u "<init>"), (0, u "()V"), (35, .class_ 44), (1, u "java/util/Objects"), (0, u "requireNonNull"), (0, u "(Ljava/lang/Object;)Ljava/lang/Object;")] 137

def k12m0 : Method := { name := "<init>", desc := "()V", sig := { parameters := [], returnType := none }, accessFlags := 2, code := none }
def k12c1 : Code := { maxStack := 2, maxLocals := 1, code := jdk_31_method_10_code, exceptionTable := #[], attributes := #[] }
def k12m1 : Method := { name := "requireNonNull", desc := "(Ljava/lang/Object;)Ljava/lang/Object;", sig := { parameters := [(.object "java/lang/Object")], returnType := some (.object "java/lang/Object") }, accessFlags := 9, code := some k12c1 }
/-- java/util/Objects -/
def k12 : Class := { plain "java/util/Objects" (some 0) with
  accessFlags := 49
  interfaces := #[]
  cf := some (fileOf pool12 42 #[] #[{ accessFlags := 2, nameIndex := 5, descriptorIndex := 6, attributes := #[] }, { accessFlags := 9, nameIndex := 45, descriptorIndex := 46, attributes := #[] }] 49 2 #[] #[])
  fields := #[]
  methods := #[k12m0, k12m1]
  instanceTypes := #[]
  staticTypes := #[]
  resolved := Array.replicate 184 none
  statics := none }

def pool13 : Array CpInfo := pool [(1, .class_ 2), (0, u "java/lang/Math"), (1, .class_ 6), (1, u "java/lang/Object"), (0, u "<init>"), (0, u "()V"), (89, .class_ 100), (1, u "java/lang/Math$RandomNumberGeneratorHolder"), (71, u "negativeZeroFloatBits"), (0, u "J"), (2, u "negativeZeroDoubleBits"), (24, u "min"), (43, u "$assertionsDisabled"), (0, u "Z"), (88, u "(II)I"), (2, u "twoToTheDoubleScaleDown"), (0, u "D"), (4, u "twoToTheDoubleScaleUp"), (9, u "E"), (3, u "PI"), (2, u "TAU"), (2, u "DEGREES_TO_RADIANS"), (0, u "RADIANS_TO_DEGREES")] 94

def k13m0 : Method := { name := "<init>", desc := "()V", sig := { parameters := [], returnType := none }, accessFlags := 2, code := none }
def k13c1 : Code := { maxStack := 2, maxLocals := 2, code := jdk_29_method_69_code, exceptionTable := #[], attributes := #[] }
def k13m1 : Method := { name := "min", desc := "(II)I", sig := { parameters := [.int, .int], returnType := some .int }, accessFlags := 9, code := some k13c1 }
/-- java/lang/Math -/
def k13 : Class := { plain "java/lang/Math" (some 0) with
  accessFlags := 49
  interfaces := #[]
  cf := some (fileOf pool13 1 #[.nestMembers #[98]] #[{ accessFlags := 2, nameIndex := 7, descriptorIndex := 8, attributes := #[] }, { accessFlags := 9, nameIndex := 201, descriptorIndex := 335, attributes := #[] }] 49 4 #[] #[{ accessFlags := 25, nameIndex := 354, descriptorIndex := 339, attributes := #[] }, { accessFlags := 25, nameIndex := 358, descriptorIndex := 339, attributes := #[] }, { accessFlags := 25, nameIndex := 361, descriptorIndex := 339, attributes := #[] }, { accessFlags := 26, nameIndex := 364, descriptorIndex := 339, attributes := #[] }, { accessFlags := 26, nameIndex := 365, descriptorIndex := 339, attributes := #[] }, { accessFlags := 26, nameIndex := 172, descriptorIndex := 173, attributes := #[] }, { accessFlags := 26, nameIndex := 176, descriptorIndex := 173, attributes := #[] }, { accessFlags := 8, nameIndex := 344, descriptorIndex := 339, attributes := #[] }, { accessFlags := 8, nameIndex := 338, descriptorIndex := 339, attributes := #[] }, { accessFlags := 4120, nameIndex := 245, descriptorIndex := 246, attributes := #[] }])
  fields := #[{ name := "E", type := .double, accessFlags := 25, slot := 0, constantValue := 0 }, { name := "PI", type := .double, accessFlags := 25, slot := 1, constantValue := 0 }, { name := "TAU", type := .double, accessFlags := 25, slot := 2, constantValue := 0 }, { name := "DEGREES_TO_RADIANS", type := .double, accessFlags := 26, slot := 3, constantValue := 0 }, { name := "RADIANS_TO_DEGREES", type := .double, accessFlags := 26, slot := 4, constantValue := 0 }, { name := "negativeZeroFloatBits", type := .long, accessFlags := 26, slot := 5, constantValue := 0 }, { name := "negativeZeroDoubleBits", type := .long, accessFlags := 26, slot := 6, constantValue := 0 }, { name := "twoToTheDoubleScaleUp", type := .double, accessFlags := 8, slot := 7, constantValue := 0 }, { name := "twoToTheDoubleScaleDown", type := .double, accessFlags := 8, slot := 8, constantValue := 0 }, { name := "$assertionsDisabled", type := .boolean, accessFlags := 4120, slot := 9, constantValue := 0 }]
  methods := #[k13m0, k13m1]
  instanceTypes := #[]
  staticTypes := #[.double, .double, .double, .double, .double, .long, .long, .double, .double, .boolean]
  resolved := Array.replicate 460 none
  statics := none }

def pool14 : Array CpInfo := pool [(1, .methodref 2 3), (0, .class_ 4), (0, .nameAndType 5 6), (0, u "java/lang/Object"), (0, u "<init>"), (0, u "()V"), (0, .fieldref 8 9), (0, .class_ 10), (0, .nameAndType 11 12), (0, u "com/example/kalchas/kalchas/propositional/HornClauses$Trail"), (0, u "values"), (0, u "[Z"), (0, .fieldref 8 14), (0, .nameAndType 15 16), (0, u "reasons"), (0, u "[I"), (0, .fieldref 8 18), (0, .nameAndType 19 16), (0, u "order"), (0, .fieldref 8 21), (0, .nameAndType 22 23), (0, u "size"), (0, u "I"), (0, u "(I)V"), (2, u "assign"), (0, u "(II)V"), (1, u "isTrue"), (0, u "(I)Z"), (1, u "(I)I"), (0, u "()I"), (0, u "get"), (3, .class_ 40), (0, u "com/example/kalchas/kalchas/propositional/HornClauses")] 2

def k14c0 : Code := { maxStack := 2, maxLocals := 2, code := prog_7_method_1_code, exceptionTable := #[], attributes := #[] }
def k14m0 : Method := { name := "<init>", desc := "(I)V", sig := { parameters := [.int], returnType := none }, accessFlags := 0, code := some k14c0 }
def k14c1 : Code := { maxStack := 3, maxLocals := 3, code := prog_7_method_2_code, exceptionTable := #[], attributes := #[] }
def k14m1 : Method := { name := "assign", desc := "(II)V", sig := { parameters := [.int, .int], returnType := none }, accessFlags := 0, code := some k14c1 }
def k14c2 : Code := { maxStack := 2, maxLocals := 2, code := prog_7_method_3_code, exceptionTable := #[], attributes := #[] }
def k14m2 : Method := { name := "isTrue", desc := "(I)Z", sig := { parameters := [.int], returnType := some .boolean }, accessFlags := 0, code := some k14c2 }
def k14c3 : Code := { maxStack := 1, maxLocals := 1, code := prog_7_method_5_code, exceptionTable := #[], attributes := #[] }
def k14m3 : Method := { name := "size", desc := "()I", sig := { parameters := [], returnType := some .int }, accessFlags := 0, code := some k14c3 }
def k14c4 : Code := { maxStack := 2, maxLocals := 2, code := prog_7_method_6_code, exceptionTable := #[], attributes := #[] }
def k14m4 : Method := { name := "get", desc := "(I)I", sig := { parameters := [.int], returnType := some .int }, accessFlags := 0, code := some k14c4 }
/-- com/example/kalchas/kalchas/propositional/HornClauses$Trail -/
def k14 : Class := { plain "com/example/kalchas/kalchas/propositional/HornClauses$Trail" (some 0) with
  accessFlags := 32
  interfaces := #[]
  cf := some (fileOf pool14 8 #[.nestHost 39] #[{ accessFlags := 0, nameIndex := 5, descriptorIndex := 24, attributes := #[] }, { accessFlags := 0, nameIndex := 27, descriptorIndex := 28, attributes := #[] }, { accessFlags := 0, nameIndex := 30, descriptorIndex := 31, attributes := #[] }, { accessFlags := 0, nameIndex := 22, descriptorIndex := 34, attributes := #[] }, { accessFlags := 0, nameIndex := 35, descriptorIndex := 33, attributes := #[] }] 32 2 #[] #[{ accessFlags := 18, nameIndex := 11, descriptorIndex := 12, attributes := #[] }, { accessFlags := 18, nameIndex := 15, descriptorIndex := 16, attributes := #[] }, { accessFlags := 18, nameIndex := 19, descriptorIndex := 16, attributes := #[] }, { accessFlags := 2, nameIndex := 22, descriptorIndex := 23, attributes := #[] }])
  fields := #[{ name := "values", type := (.array .boolean), accessFlags := 18, slot := 0, constantValue := 0 }, { name := "reasons", type := (.array .int), accessFlags := 18, slot := 1, constantValue := 0 }, { name := "order", type := (.array .int), accessFlags := 18, slot := 2, constantValue := 0 }, { name := "size", type := .int, accessFlags := 2, slot := 3, constantValue := 0 }]
  methods := #[k14m0, k14m1, k14m2, k14m3, k14m4]
  instanceTypes := #[(.array .boolean), (.array .int), (.array .int), .int]
  staticTypes := #[]
  resolved := Array.replicate 43 none
  statics := none }

def pool15 : Array CpInfo := pool [(1, u "java/lang/Cloneable"), (0, .class_ 1), (0, u "java/lang/Object"), (0, .class_ 3)] 3

/-- java/lang/Cloneable -/
def k15 : Class := { plain "java/lang/Cloneable" (some 0) with
  accessFlags := 1537
  interfaces := #[]
  cf := some (fileOf pool15 2 #[] #[] 1537 4 #[] #[])
  fields := #[]
  methods := #[]
  instanceTypes := #[]
  staticTypes := #[]
  resolved := Array.replicate 8 none
  statics := none }

/-- the primitive boolean -/
def k16 : Class := { plain "boolean" none with kind := .primitive 'Z', accessFlags := 0x411 }
/-- [Z -/
def k17 : Class := { plain "[Z" (some 0) with kind := .array 16 .boolean, interfaces := #[15, 3], accessFlags := 1041 }

/-- the primitive byte -/
def k18 : Class := { plain "byte" none with kind := .primitive 'B', accessFlags := 0x411 }
/-- [B -/
def k19 : Class := { plain "[B" (some 0) with kind := .array 18 .byte, interfaces := #[15, 3], accessFlags := 1041 }

/-- the primitive int -/
def k20 : Class := { plain "int" none with kind := .primitive 'I', accessFlags := 0x411 }
/-- [I -/
def k21 : Class := { plain "[I" (some 0) with kind := .array 20 .int, interfaces := #[15, 3], accessFlags := 1041 }

def classes0 : Array Class := #[k0, k1, k2, k3, k4, k5, k6, k7, k8, k9, k10, k11, k12, k13, k14, k15, k16, k17, k18, k19, k20, k21]
/-- the class that the rule has made for the site at 65 of com/example/kalchas/kalchas/propositional/HornClauses.index -/
def k22 : Class := Jvm.LamKit.madeRec { classes := classes0 } "com/example/kalchas/kalchas/propositional/HornClauses" (Jvm.Lambda.Shape.mk "java/util/function/IntUnaryOperator" "applyAsInt" (Jvm.ClassFile.MethodDescriptor.mk ([Jvm.ClassFile.FieldType.int] : List Jvm.ClassFile.FieldType) (Option.some Jvm.ClassFile.FieldType.int)) ([] : List Jvm.ClassFile.FieldType) (6 : Nat) "com/example/kalchas/kalchas/propositional/HornClauses" "lambda$index$1" (Jvm.ClassFile.MethodDescriptor.mk ([Jvm.ClassFile.FieldType.int] : List Jvm.ClassFile.FieldType) (Option.some Jvm.ClassFile.FieldType.int)) false (Jvm.ClassFile.MethodDescriptor.mk ([Jvm.ClassFile.FieldType.int] : List Jvm.ClassFile.FieldType) (Option.some Jvm.ClassFile.FieldType.int))) 22

def heap : Heap := #[{ cls := 22, slots := #[], vm := .none }]
def classes : Array Class := #[k0, k1, k2, k3, k4, k5, k6, k7, k8, k9, k10, k11, k12, k13, k14, k15, k16, k17, k18, k19, k20, k21, k22]
def interned : List (Array UInt16 × Addr) := []
def slotsUsed : Nat := 0
def theMethod : MethodId := ⟨1, 1⟩
def args0 : Array Value := #[.int 1]
def aboutOver (below : List Frame) : State where
  vm := { classes := classes, interned := interned.toArray }
  heap := heap
  slotsUsed := slotsUsed
  threads := #[{ frames := .invoking theMethod args0 :: below }]
def below0 : List Frame := [.native { method := ⟨0, 0⟩, args := #[] }]
def about1 : State := aboutOver below0
def p0 : Program := .bare "" "" ""
def e0 : Env := launch0.env 0 0 0
theorem w_frames : about1.frames = Frame.invoking theMethod args0 :: below0 := rfl
set_option maxRecDepth 65536 in
theorem w_args : argsFit about1.vm theMethod args0 = true := by decide +kernel
set_option maxRecDepth 65536 in
theorem w_heap : heapFits about1 = true := by decide +kernel
set_option maxRecDepth 65536 in
theorem w_runnable : about1.curStatus? = some .runnable := by decide +kernel
set_option maxRecDepth 65536 in
theorem w_alone : about1.alone = true := by decide +kernel
set_option maxRecDepth 65536 in
theorem w_named : about1.methodNamed? x = some theMethod := by decide +kernel
set_option maxRecDepth 65536 in
theorem w_hears : about1.hears theMethod below0 = true := by decide +kernel
set_option maxRecDepth 65536 in
theorem w_ripe : about1.ripe theMethod args0 below0 = true := by decide +kernel
theorem w_running : about1.status = .running := rfl
set_option maxRecDepth 65536 in
theorem w_room : about1.hasRoom e0.platform room_1 = true :=
  launch0.hasRoom_least _ room_1 (by decide +kernel) (by decide +kernel) (by decide +kernel) (by decide +kernel) (by decide +kernel) (by decide +kernel)
theorem allAtoms_all (ts : List Jvm.Cond) (a : Array Jvm.Value) (st : Jvm.State) : (allAtoms ts).before a st = ts.all (fun c => c.before a st) := by
  induction ts with
  | nil => rfl
  | cons c t ih =>
    show (Jvm.Cond.and c (allAtoms t)).before a st = _
    rw [Jvm.Cond.before_and, ih, List.all_cons]
def words1 : List Jvm.Cond := Jvm.Cond.code x code maxLocals ret :: tables_1
/-- a 'code' word, met by the world's own term for the bytes: nothing is compared byte by byte -/
theorem code_word {y : MethodName} {bytes : ByteArray} {mx : Nat} {rt : Option FieldType} {a : Array Value} {s : State} {m : MethodId} {meth : Method} {c : Code} (h1 : s.methodNamed? y = some m) (h2 : s.vm.method? m = some meth) (h3 : meth.code = some c) (h4 : c.code = bytes)
    (h5 : (c.maxLocals == mx && c.exceptionTable.isEmpty && decide (c.maxStack ≤ mostOperands) && decide (meth.sig.returnType = rt) && !meth.locks && decide (parseMethodDescriptor y.desc = some meth.sig)) = true) : (Jvm.Cond.code y bytes mx rt).before a s = true := by
  simp only [Bool.and_eq_true, beq_iff_eq, Bool.not_eq_true', decide_eq_true_eq] at h5
  obtain ⟨⟨⟨⟨⟨g1, g2⟩, g3⟩, g4⟩, g5⟩, g6⟩ := h5
  simp [Cond.before, Cond.holds, Cond.value, h1, h2, h3, h4, g1, g2, g3, g4, g5, g6]
def isCode : Jvm.Cond → Bool
  | .code _ _ _ _ => true
  | _ => false
theorem all_split {L : List Jvm.Cond} {P : Jvm.Cond → Bool} (h1 : L.all (fun c => isCode c || P c) = true) (h2 : ∀ c ∈ L.filter isCode, P c = true) : L.all P = true := by
  refine List.all_eq_true.mpr fun c hc => ?_
  have h := List.all_eq_true.mp h1 c hc
  rcases Bool.eq_false_or_eq_true (isCode c) with hi | hi
  · exact h2 c (List.mem_filter.mpr ⟨hc, hi⟩)
  · simpa [hi] using h
set_option maxRecDepth 65536 in
theorem w_c0 : (Jvm.Cond.code x code maxLocals ret).before args0 about1 = true := code_word (m := ⟨1, 1⟩) (meth := k1m1) (c := k1c1) (by decide +kernel) rfl rfl rfl (by decide +kernel)
set_option maxRecDepth 65536 in
theorem w_c1 : (Jvm.Cond.code ({ cls := "com/example/kalchas/kalchas/propositional/HornClauses", name := "<init>", desc := "()V" } : Jvm.MethodName) prog_6_method_1_code (1 : Nat) (Option.none : Option Jvm.ClassFile.FieldType)).before args0 about1 = true := code_word (m := ⟨2, 0⟩) (meth := k2m0) (c := k2c0) (by decide +kernel) rfl rfl rfl (by decide +kernel)
set_option maxRecDepth 65536 in
theorem w_c2 : (Jvm.Cond.code ({ cls := "java/lang/Object", name := "<init>", desc := "()V" } : Jvm.MethodName) object_method_1_code (1 : Nat) (Option.none : Option Jvm.ClassFile.FieldType)).before args0 about1 = true := code_word (m := ⟨0, 0⟩) (meth := k0m0) (c := k0c0) (by decide +kernel) rfl rfl rfl (by decide +kernel)
set_option maxRecDepth 65536 in
theorem w_c3 : (Jvm.Cond.code ({ cls := "com/example/kalchas/kalchas/propositional/HornClauses", name := "newVariable", desc := "()I" } : Jvm.MethodName) prog_6_method_2_code (2 : Nat) (Option.some Jvm.ClassFile.FieldType.int)).before args0 about1 = true := code_word (m := ⟨2, 1⟩) (meth := k2m1) (c := k2c1) (by decide +kernel) rfl rfl rfl (by decide +kernel)
set_option maxRecDepth 65536 in
theorem w_c4 : (Jvm.Cond.code ({ cls := "com/example/kalchas/kalchas/propositional/HornClauses", name := "add", desc := "(I[I)V" } : Jvm.MethodName) prog_6_method_4_code (7 : Nat) (Option.none : Option Jvm.ClassFile.FieldType)).before args0 about1 = true := code_word (m := ⟨2, 3⟩) (meth := k2m3) (c := k2c3) (by decide +kernel) rfl rfl rfl (by decide +kernel)
set_option maxRecDepth 65536 in
theorem w_c5 : (Jvm.Cond.code ({ cls := "com/example/kalchas/kalchas/propositional/HornClauses", name := "checkVariable", desc := "(I)V" } : Jvm.MethodName) prog_6_method_14_code (2 : Nat) (Option.none : Option Jvm.ClassFile.FieldType)).before args0 about1 = true := code_word (m := ⟨2, 6⟩) (meth := k2m6) (c := k2c6) (by decide +kernel) rfl rfl rfl (by decide +kernel)
set_option maxRecDepth 65536 in
theorem w_c6 : (Jvm.Cond.code ({ cls := "com/example/kalchas/kalchas/propositional/HornClauses", name := "checkNumber", desc := "(Ljava/lang/String;II)V" } : Jvm.MethodName) prog_6_method_16_code (3 : Nat) (Option.none : Option Jvm.ClassFile.FieldType)).before args0 about1 = true := code_word (m := ⟨2, 7⟩) (meth := k2m7) (c := k2c7) (by decide +kernel) rfl rfl rfl (by decide +kernel)
set_option maxRecDepth 65536 in
theorem w_c7 : (Jvm.Cond.code ({ cls := "com/example/kalchas/kalchas/propositional/HornClauses", name := "variableCount", desc := "()I" } : Jvm.MethodName) prog_6_method_3_code (1 : Nat) (Option.some Jvm.ClassFile.FieldType.int)).before args0 about1 = true := code_word (m := ⟨2, 2⟩) (meth := k2m2) (c := k2c2) (by decide +kernel) rfl rfl rfl (by decide +kernel)
set_option maxRecDepth 65536 in
theorem w_c8 : (Jvm.Cond.code ({ cls := "com/example/kalchas/kalchas/propositional/HornClauses", name := "implies", desc := "([II)Z" } : Jvm.MethodName) prog_6_method_8_code (3 : Nat) (Option.some Jvm.ClassFile.FieldType.boolean)).before args0 about1 = true := code_word (m := ⟨2, 4⟩) (meth := k2m4) (c := k2c4) (by decide +kernel) rfl rfl rfl (by decide +kernel)
set_option maxRecDepth 65536 in
theorem w_c9 : (Jvm.Cond.code ({ cls := "com/example/kalchas/kalchas/propositional/HornClauses", name := "propagate", desc := "([II)Lcom/example/kalchas/kalchas/propositional/HornClauses$Trail;" } : Jvm.MethodName) prog_6_method_13_code (9 : Nat) (Option.some (Jvm.ClassFile.FieldType.object "com/example/kalchas/kalchas/propositional/HornClauses$Trail"))).before args0 about1 = true := code_word (m := ⟨2, 5⟩) (meth := k2m5) (c := k2c5) (by decide +kernel) rfl rfl rfl (by decide +kernel)
set_option maxRecDepth 65536 in
theorem w_c10 : (Jvm.Cond.code ({ cls := "com/example/kalchas/kalchas/propositional/HornClauses", name := "index", desc := "()V" } : Jvm.MethodName) prog_6_method_17_code (6 : Nat) (Option.none : Option Jvm.ClassFile.FieldType)).before args0 about1 = true := code_word (m := ⟨2, 8⟩) (meth := k2m8) (c := k2c8) (by decide +kernel) rfl rfl rfl (by decide +kernel)
set_option maxRecDepth 65536 in
theorem w_c11 : (Jvm.Cond.code ({ cls := "java/util/Arrays", name := "fill", desc := "([IIII)V" } : Jvm.MethodName) jdk_65_method_104_code (5 : Nat) (Option.none : Option Jvm.ClassFile.FieldType)).before args0 about1 = true := code_word (m := ⟨10, 2⟩) (meth := k10m2) (c := k10c2) (by decide +kernel) rfl rfl rfl (by decide +kernel)
set_option maxRecDepth 65536 in
theorem w_c12 : (Jvm.Cond.code ({ cls := "java/util/Arrays", name := "rangeCheck", desc := "(III)V" } : Jvm.MethodName) jdk_65_method_30_code (3 : Nat) (Option.none : Option Jvm.ClassFile.FieldType)).before args0 about1 = true := code_word (m := ⟨10, 1⟩) (meth := k10m1) (c := k10c1) (by decide +kernel) rfl rfl rfl (by decide +kernel)
set_option maxRecDepth 65536 in
theorem w_c13 : (Jvm.Cond.code ({ cls := "java/util/Arrays", name := "setAll", desc := "([ILjava/util/function/IntUnaryOperator;)V" } : Jvm.MethodName) jdk_65_method_175_code (3 : Nat) (Option.none : Option Jvm.ClassFile.FieldType)).before args0 about1 = true := code_word (m := ⟨10, 4⟩) (meth := k10m4) (c := k10c4) (by decide +kernel) rfl rfl rfl (by decide +kernel)
set_option maxRecDepth 65536 in
theorem w_c14 : (Jvm.Cond.code ({ cls := "java/util/Objects", name := "requireNonNull", desc := "(Ljava/lang/Object;)Ljava/lang/Object;" } : Jvm.MethodName) jdk_31_method_10_code (1 : Nat) (Option.some (Jvm.ClassFile.FieldType.object "java/lang/Object"))).before args0 about1 = true := code_word (m := ⟨12, 1⟩) (meth := k12m1) (c := k12c1) (by decide +kernel) rfl rfl rfl (by decide +kernel)
set_option maxRecDepth 65536 in
theorem w_c15 : (Jvm.Cond.code ({ cls := "com/example/kalchas/kalchas/propositional/HornClauses", name := "lambda$index$1", desc := "(I)I" } : Jvm.MethodName) prog_6_method_19_code (1 : Nat) (Option.some Jvm.ClassFile.FieldType.int)).before args0 about1 = true := code_word (m := ⟨2, 10⟩) (meth := k2m10) (c := k2c10) (by decide +kernel) rfl rfl rfl (by decide +kernel)
set_option maxRecDepth 65536 in
theorem w_c16 : (Jvm.Cond.code ({ cls := "com/example/kalchas/kalchas/propositional/HornClauses", name := "groupByVariable", desc := "([I[II[I)[I" } : Jvm.MethodName) prog_6_method_18_code (8 : Nat) (Option.some (Jvm.ClassFile.FieldType.array Jvm.ClassFile.FieldType.int))).before args0 about1 = true := code_word (m := ⟨2, 9⟩) (meth := k2m9) (c := k2c9) (by decide +kernel) rfl rfl rfl (by decide +kernel)
set_option maxRecDepth 65536 in
theorem w_c17 : (Jvm.Cond.code ({ cls := "java/util/Arrays", name := "copyOf", desc := "([II)[I" } : Jvm.MethodName) jdk_65_method_123_code (3 : Nat) (Option.some (Jvm.ClassFile.FieldType.array Jvm.ClassFile.FieldType.int))).before args0 about1 = true := code_word (m := ⟨10, 3⟩) (meth := k10m3) (c := k10c3) (by decide +kernel) rfl rfl rfl (by decide +kernel)
set_option maxRecDepth 65536 in
theorem w_c18 : (Jvm.Cond.code ({ cls := "java/lang/Math", name := "min", desc := "(II)I" } : Jvm.MethodName) jdk_29_method_69_code (2 : Nat) (Option.some Jvm.ClassFile.FieldType.int)).before args0 about1 = true := code_word (m := ⟨13, 1⟩) (meth := k13m1) (c := k13c1) (by decide +kernel) rfl rfl rfl (by decide +kernel)
set_option maxRecDepth 65536 in
theorem w_c19 : (Jvm.Cond.code ({ cls := "com/example/kalchas/kalchas/propositional/HornClauses$Trail", name := "<init>", desc := "(I)V" } : Jvm.MethodName) prog_7_method_1_code (2 : Nat) (Option.none : Option Jvm.ClassFile.FieldType)).before args0 about1 = true := code_word (m := ⟨14, 0⟩) (meth := k14m0) (c := k14c0) (by decide +kernel) rfl rfl rfl (by decide +kernel)
set_option maxRecDepth 65536 in
theorem w_c20 : (Jvm.Cond.code ({ cls := "com/example/kalchas/kalchas/propositional/HornClauses$Trail", name := "assign", desc := "(II)V" } : Jvm.MethodName) prog_7_method_2_code (3 : Nat) (Option.none : Option Jvm.ClassFile.FieldType)).before args0 about1 = true := code_word (m := ⟨14, 1⟩) (meth := k14m1) (c := k14c1) (by decide +kernel) rfl rfl rfl (by decide +kernel)
set_option maxRecDepth 65536 in
theorem w_c21 : (Jvm.Cond.code ({ cls := "com/example/kalchas/kalchas/propositional/HornClauses$Trail", name := "isTrue", desc := "(I)Z" } : Jvm.MethodName) prog_7_method_3_code (2 : Nat) (Option.some Jvm.ClassFile.FieldType.boolean)).before args0 about1 = true := code_word (m := ⟨14, 2⟩) (meth := k14m2) (c := k14c2) (by decide +kernel) rfl rfl rfl (by decide +kernel)
set_option maxRecDepth 65536 in
theorem w_c22 : (Jvm.Cond.code ({ cls := "com/example/kalchas/kalchas/propositional/HornClauses$Trail", name := "size", desc := "()I" } : Jvm.MethodName) prog_7_method_5_code (1 : Nat) (Option.some Jvm.ClassFile.FieldType.int)).before args0 about1 = true := code_word (m := ⟨14, 3⟩) (meth := k14m3) (c := k14c3) (by decide +kernel) rfl rfl rfl (by decide +kernel)
set_option maxRecDepth 65536 in
theorem w_c23 : (Jvm.Cond.code ({ cls := "com/example/kalchas/kalchas/propositional/HornClauses$Trail", name := "get", desc := "(I)I" } : Jvm.MethodName) prog_7_method_6_code (2 : Nat) (Option.some Jvm.ClassFile.FieldType.int)).before args0 about1 = true := code_word (m := ⟨14, 4⟩) (meth := k14m4) (c := k14c4) (by decide +kernel) rfl rfl rfl (by decide +kernel)
def codes1 : List Jvm.Cond := [Jvm.Cond.code x code maxLocals ret, Jvm.Cond.code ({ cls := "com/example/kalchas/kalchas/propositional/HornClauses", name := "<init>", desc := "()V" } : Jvm.MethodName) prog_6_method_1_code (1 : Nat) (Option.none : Option Jvm.ClassFile.FieldType), Jvm.Cond.code ({ cls := "java/lang/Object", name := "<init>", desc := "()V" } : Jvm.MethodName) object_method_1_code (1 : Nat) (Option.none : Option Jvm.ClassFile.FieldType), Jvm.Cond.code ({ cls := "com/example/kalchas/kalchas/propositional/HornClauses", name := "newVariable", desc := "()I" } : Jvm.MethodName) prog_6_method_2_code (2 : Nat) (Option.some Jvm.ClassFile.FieldType.int), Jvm.Cond.code ({ cls := "com/example/kalchas/kalchas/propositional/HornClauses", name := "add", desc := "(I[I)V" } : Jvm.MethodName) prog_6_method_4_code (7 : Nat) (Option.none : Option Jvm.ClassFile.FieldType), Jvm.Cond.code ({ cls := "com/example/kalchas/kalchas/propositional/HornClauses", name := "checkVariable", desc := "(I)V" } : Jvm.MethodName) prog_6_method_14_code (2 : Nat) (Option.none : Option Jvm.ClassFile.FieldType), Jvm.Cond.code ({ cls := "com/example/kalchas/kalchas/propositional/HornClauses", name := "checkNumber", desc := "(Ljava/lang/String;II)V" } : Jvm.MethodName) prog_6_method_16_code (3 : Nat) (Option.none : Option Jvm.ClassFile.FieldType), Jvm.Cond.code ({ cls := "com/example/kalchas/kalchas/propositional/HornClauses", name := "variableCount", desc := "()I" } : Jvm.MethodName) prog_6_method_3_code (1 : Nat) (Option.some Jvm.ClassFile.FieldType.int), Jvm.Cond.code ({ cls := "com/example/kalchas/kalchas/propositional/HornClauses", name := "implies", desc := "([II)Z" } : Jvm.MethodName) prog_6_method_8_code (3 : Nat) (Option.some Jvm.ClassFile.FieldType.boolean), Jvm.Cond.code ({ cls := "com/example/kalchas/kalchas/propositional/HornClauses", name := "propagate", desc := "([II)Lcom/example/kalchas/kalchas/propositional/HornClauses$Trail;" } : Jvm.MethodName) prog_6_method_13_code (9 : Nat) (Option.some (Jvm.ClassFile.FieldType.object "com/example/kalchas/kalchas/propositional/HornClauses$Trail")), Jvm.Cond.code ({ cls := "com/example/kalchas/kalchas/propositional/HornClauses", name := "index", desc := "()V" } : Jvm.MethodName) prog_6_method_17_code (6 : Nat) (Option.none : Option Jvm.ClassFile.FieldType), Jvm.Cond.code ({ cls := "java/util/Arrays", name := "fill", desc := "([IIII)V" } : Jvm.MethodName) jdk_65_method_104_code (5 : Nat) (Option.none : Option Jvm.ClassFile.FieldType), Jvm.Cond.code ({ cls := "java/util/Arrays", name := "rangeCheck", desc := "(III)V" } : Jvm.MethodName) jdk_65_method_30_code (3 : Nat) (Option.none : Option Jvm.ClassFile.FieldType), Jvm.Cond.code ({ cls := "java/util/Arrays", name := "setAll", desc := "([ILjava/util/function/IntUnaryOperator;)V" } : Jvm.MethodName) jdk_65_method_175_code (3 : Nat) (Option.none : Option Jvm.ClassFile.FieldType), Jvm.Cond.code ({ cls := "java/util/Objects", name := "requireNonNull", desc := "(Ljava/lang/Object;)Ljava/lang/Object;" } : Jvm.MethodName) jdk_31_method_10_code (1 : Nat) (Option.some (Jvm.ClassFile.FieldType.object "java/lang/Object")), Jvm.Cond.code ({ cls := "com/example/kalchas/kalchas/propositional/HornClauses", name := "lambda$index$1", desc := "(I)I" } : Jvm.MethodName) prog_6_method_19_code (1 : Nat) (Option.some Jvm.ClassFile.FieldType.int), Jvm.Cond.code ({ cls := "com/example/kalchas/kalchas/propositional/HornClauses", name := "groupByVariable", desc := "([I[II[I)[I" } : Jvm.MethodName) prog_6_method_18_code (8 : Nat) (Option.some (Jvm.ClassFile.FieldType.array Jvm.ClassFile.FieldType.int)), Jvm.Cond.code ({ cls := "java/util/Arrays", name := "copyOf", desc := "([II)[I" } : Jvm.MethodName) jdk_65_method_123_code (3 : Nat) (Option.some (Jvm.ClassFile.FieldType.array Jvm.ClassFile.FieldType.int)), Jvm.Cond.code ({ cls := "java/lang/Math", name := "min", desc := "(II)I" } : Jvm.MethodName) jdk_29_method_69_code (2 : Nat) (Option.some Jvm.ClassFile.FieldType.int), Jvm.Cond.code ({ cls := "com/example/kalchas/kalchas/propositional/HornClauses$Trail", name := "<init>", desc := "(I)V" } : Jvm.MethodName) prog_7_method_1_code (2 : Nat) (Option.none : Option Jvm.ClassFile.FieldType), Jvm.Cond.code ({ cls := "com/example/kalchas/kalchas/propositional/HornClauses$Trail", name := "assign", desc := "(II)V" } : Jvm.MethodName) prog_7_method_2_code (3 : Nat) (Option.none : Option Jvm.ClassFile.FieldType), Jvm.Cond.code ({ cls := "com/example/kalchas/kalchas/propositional/HornClauses$Trail", name := "isTrue", desc := "(I)Z" } : Jvm.MethodName) prog_7_method_3_code (2 : Nat) (Option.some Jvm.ClassFile.FieldType.boolean), Jvm.Cond.code ({ cls := "com/example/kalchas/kalchas/propositional/HornClauses$Trail", name := "size", desc := "()I" } : Jvm.MethodName) prog_7_method_5_code (1 : Nat) (Option.some Jvm.ClassFile.FieldType.int), Jvm.Cond.code ({ cls := "com/example/kalchas/kalchas/propositional/HornClauses$Trail", name := "get", desc := "(I)I" } : Jvm.MethodName) prog_7_method_6_code (2 : Nat) (Option.some Jvm.ClassFile.FieldType.int)]
set_option maxRecDepth 65536 in
theorem codes_eq : words1.filter isCode = codes1 := rfl
theorem w_codes : ∀ c ∈ words1.filter isCode, c.before args0 about1 = true := by
  rw [codes_eq]
  intro c hc
  simp only [codes1, List.mem_cons, List.not_mem_nil, or_false] at hc
  rcases hc with rfl | rfl | rfl | rfl | rfl | rfl | rfl | rfl | rfl | rfl | rfl | rfl | rfl | rfl | rfl | rfl | rfl | rfl | rfl | rfl | rfl | rfl | rfl | rfl
  · exact w_c0
  · exact w_c1
  · exact w_c2
  · exact w_c3
  · exact w_c4
  · exact w_c5
  · exact w_c6
  · exact w_c7
  · exact w_c8
  · exact w_c9
  · exact w_c10
  · exact w_c11
  · exact w_c12
  · exact w_c13
  · exact w_c14
  · exact w_c15
  · exact w_c16
  · exact w_c17
  · exact w_c18
  · exact w_c19
  · exact w_c20
  · exact w_c21
  · exact w_c22
  · exact w_c23
set_option maxRecDepth 65536 in
theorem w_t1 : (words1.take 24).all (fun c => isCode c || c.before args0 about1) = true := by decide +kernel
set_option maxRecDepth 65536 in
theorem w_t2 : ((words1.drop 24).take 24).all (fun c => isCode c || c.before args0 about1) = true := by decide +kernel
set_option maxRecDepth 65536 in
theorem w_t3 : (((words1.drop 24).drop 24).take 24).all (fun c => isCode c || c.before args0 about1) = true := by decide +kernel
set_option maxRecDepth 65536 in
theorem w_t4 : ((((words1.drop 24).drop 24).drop 24).take 24).all (fun c => isCode c || c.before args0 about1) = true := by decide +kernel
set_option maxRecDepth 65536 in
theorem w_t5 : (((((words1.drop 24).drop 24).drop 24).drop 24).take 24).all (fun c => isCode c || c.before args0 about1) = true := by decide +kernel
set_option maxRecDepth 65536 in
theorem w_t6 : ((((((words1.drop 24).drop 24).drop 24).drop 24).drop 24).take 24).all (fun c => isCode c || c.before args0 about1) = true := by decide +kernel
set_option maxRecDepth 65536 in
theorem w_t7 : ((((((words1.drop 24).drop 24).drop 24).drop 24).drop 24).drop 24).all (fun c => isCode c || c.before args0 about1) = true := by decide +kernel
theorem w_tables : (allAtoms (Jvm.Cond.code x code maxLocals ret :: tables_1)).before args0 about1 = true := by
  rw [allAtoms_all]
  show words1.all (fun c => c.before args0 about1) = true
  refine all_split ?_ w_codes
  rw [← List.take_append_drop 24 words1, List.all_append, w_t1, ← List.take_append_drop 24 (words1.drop 24), List.all_append, w_t2, ← List.take_append_drop 24 ((words1.drop 24).drop 24), List.all_append, w_t3, ← List.take_append_drop 24 (((words1.drop 24).drop 24).drop 24), List.all_append, w_t4, ← List.take_append_drop 24 ((((words1.drop 24).drop 24).drop 24).drop 24), List.all_append, w_t5, ← List.take_append_drop 24 (((((words1.drop 24).drop 24).drop 24).drop 24).drop 24), List.all_append, w_t6, w_t7]
  rfl
set_option maxRecDepth 65536 in
theorem w_case : (Jvm.Cond.and given_1 narrow_1).before args0 about1 = true := by decide +kernel
theorem w_applies : (headSpec (Jvm.Cond.code x code maxLocals ret :: tables_1) room_1).applies x e0.platform about1 = true :=
  (Spec.applies_iff w_frames).mpr ⟨w_running, w_runnable, w_alone, w_named, w_hears, w_ripe, w_room, w_tables⟩
theorem atStart : AtStart classFile x code maxLocals ret World_1 tables_1 room_1 Calls_1 rest_1 Pre_1 launch0 p0 e0 about1 theMethod args0 below0 :=
  ⟨lists_1, trivial, launch0.admits_env _ _ _, launch0.least_env, fairChoices_fair.cas, fairChoices_fair.clock, w_frames, w_args, w_heap, w_applies, trivial, trivial, w_case⟩
end start1
theorem witness_1 : WitnessClaimed_1 := ⟨start1.p0, start1.e0, start1.about1, start1.theMethod, start1.args0, start1.below0, start1.atStart⟩
end Jvm.Pilot.@@N@@
