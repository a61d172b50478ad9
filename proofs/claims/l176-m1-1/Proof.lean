import JvmDerived
import JvmDerived.Pilot.@@N@@Statement
import JvmDerived.Pilot.@@N@@Code
set_option linter.unusedVariables false
set_option linter.unusedSimpArgs false
namespace Jvm.Pilot.@@N@@
open Jvm Jvm.ClassFile Sem Op Lib Jvm.Free Jvm.Stand Jvm.LawKit Jvm.RoadKit Bundle Jvm.Pilot.@@N@@.Jvm.D
def own_Go (tb : Tables) (e : Env) (below : List Frame) (P : State → Outcome → Prop) (T : State) (g : JFrame) : Prop := ∃ t o, Steps tb e below (T.setTop g) t ∧ P t o
theorem own_go {tb : Tables} {e : Env} {below : List Frame} {P : State → Outcome → Prop} {T T' : State} {g g' : JFrame} (k : ∀ target, Steps tb e below (T'.setTop g') target → Steps tb e below (T.setTop g) target) (h : own_Go tb e below P T' g') : own_Go tb e below P T g := by
  obtain ⟨t, o, a, b⟩ := h
  exact ⟨t, o, k t a, b⟩
theorem own_cast {P Q : Prop} (h : P = Q) (p : P) : Q := h ▸ p
def own_upd (f : Nat → Value) (k : Nat) (v : Value) : Nat → Value := fun i => if i = k then v else f i
/-- an array of length z at a, its element i being f i -/
def own_AV (Z : State) (h : Heap) (a : Addr) (ty : FieldType) (z : Int32) (f : Nat → Value) : Prop := ¬ z < 0 ∧ ∃ c : Cell, Arr Z h a c ty ∧ c.slots.size = z.toNatClampNeg ∧ ∀ i, i < c.slots.size → c.slots[i]? = some (f i)
section
variable {Z : State} {h h' : Heap} {a b : Addr} {ty : FieldType} {z j : Int32} {f : Nat → Value} {v w : Value} {sl k : Nat} {ws : List Addr} {cA : ClassId}
theorem own_AV.lt (F : own_AV Z h a ty z f) : a < h.size := by obtain ⟨_, c, A, -⟩ := F; exact A.lt
theorem own_AV.ext (F : own_AV Z h a ty z f) (E : Ext h h') : own_AV Z h' a ty z f := by obtain ⟨q, c, A, r⟩ := F; exact ⟨q, c, A.ext E, r⟩
theorem own_AV.other (F : own_AV Z h b ty z f) (W : Wr h h' a sl v) (q : b ≠ a) : own_AV Z h' b ty z f := by obtain ⟨q1, c, A, r⟩ := F; exact ⟨q1, c, A.other W q, r⟩
theorem own_AV.keep (F : own_AV Z h a ty z f) (K : Keep h h' ws) (q : a ∉ ws) : own_AV Z h' a ty z f := by obtain ⟨q1, c, A, r⟩ := F; exact ⟨q1, c, ⟨K.2.1 a c A.1 q, A.2⟩, r⟩
theorem own_AV.new (A : Arr Z h a (newA cA ty z) ty) (q : ¬ z < 0) : own_AV Z h a ty z (fun _ => defaultValue ty) :=
  ⟨q, _, A, sz_new _ _ _, fun i hi => by
    rw [sz_new] at hi
    simp [newA, hi]⟩
theorem own_AV.set (F : own_AV Z h a ty z f) (W : Wr h h' a j.toNatClampNeg v) (hk : j.toNatClampNeg = k) : own_AV Z h' a ty z (own_upd f k v) := by
  obtain ⟨q, c, A, s, t⟩ := F
  subst hk
  refine ⟨q, _, A.same W, by rw [sz_set]; exact s, fun i hi => ?_⟩
  rw [sz_set] at hi
  by_cases e : i = j.toNatClampNeg
  · subst e; simp [own_upd, Cell.setSlot, hi]
  · simp only [own_upd, if_neg e, Cell.setSlot]
    rw [Array.getElem?_setIfInBounds_ne (Ne.symm e)]; exact t i hi
theorem own_at {c : Cell} (t : ∀ i, i < c.slots.size → c.slots[i]? = some (f i)) (s : c.slots.size = z.toNatClampNeg) (hin : ¬ (j < 0 ∨ c.slots.size ≤ j.toNatClampNeg)) (hk : j.toNatClampNeg = k) (hv : f k = v) : c.slots[j.toNatClampNeg]? = some v := by
  rw [t _ (Nat.lt_of_not_le fun q => hin (Or.inr q)), hk, hv]
theorem own_sta_keep {C n d : String} (F : Sta Z h C n d w) (K : Keep h h' ws) (q : ∀ x ∈ ws, ∀ c : Cell, h[x]? = some c → c.vm.isStatics = false) : Sta Z h' C n d w := by
  obtain ⟨cf, i, k, f, st, cell, h1, h2, h3, h4, h5, h6, h7⟩ := F
  exact ⟨cf, i, k, f, st, cell, h1, h2, h3, h4, K.2.1 st cell h5 (fun m => by rw [q st m cell h5] at h6; cases h6), h6, h7⟩
theorem own_exa_plain {C : String} (F : Exa Z h a C) : ∀ c : Cell, h[a]? = some c → c.vm.isStatics = false := fun c hc => by
  obtain ⟨c1, k, h1, -, -, h4, -⟩ := F; cases h1.symm.trans hc; exact h4
theorem own_AV.plain (F : own_AV Z h a ty z f) : ∀ c : Cell, h[a]? = some c → c.vm.isStatics = false := fun c hc => by
  obtain ⟨_, c1, A, -⟩ := F; cases A.1.symm.trans hc; exact A.plain
end
theorem own_narb {x : Int32} (h : x = 0 ∨ x = 1) : nar .boolean x = x := by rcases h with rfl | rfl <;> rfl
theorem own_exa_ref {args : Array Value} {s : State} {t : Term} {C : String} (hx : (Jvm.Cond.exactly t C).value args s none s [] = some true) : ∃ a, t.eval args s none [] s = some (.ref a) ∧ Exa s s.heap a C := by
  obtain ⟨a', c', cell, k, e1, -⟩ := Cond.exactly_spec (Cond.before_iff.mpr hx)
  exact ⟨a', e1, Exa.start e1 hx⟩
theorem own_eq_int {args : Array Value} {s : State} {t : Term} {k : Int32} (h : (Jvm.Cond.eq t (Jvm.Term.int k)).value args s none s [] = some true) : t.eval args s none [] s = some (.int k) := by
  cases hv : t.eval args s none [] s with
  | none => simp [Cond.value, hv] at h
  | some v => cases v <;> simp [Cond.value, hv, Term.eval] at h <;> simp [h]
theorem own_fld_int {args : Array Value} {s : State} {t : Term} {C n d : String} {a : Addr} {k : Int32} (ev : t.eval args s none [] s = some (.ref a)) (h : (Jvm.Cond.eq (Jvm.Term.field t C n d) (Jvm.Term.int k)).value args s none s [] = some true) : Fld s s.heap a C n d (.int k) :=
  Fld.start ((fld_at ev).symm.trans (own_eq_int h))
theorem own_nar_c (x : Int32) : nar .char (x.toUInt32.toUInt16.toUInt32.toInt32) = x.toUInt32.toUInt16.toUInt32.toInt32 := Value.int.inj (Jvm.Free.XT.narrow_c x)
theorem own_nar_b (x : Int32) : nar .byte (x.toInt8.toInt32) = x.toInt8.toInt32 := Value.int.inj (Jvm.Free.XT.narrow_b x)
theorem own_NSroot {Z : State} {a0 : Array Value} {O K : String} {n : Nat} (w : (Jvm.Cond.noSuperclass O).before a0 Z = true) (wk : (Jvm.Cond.instantiable K n).before a0 Z = true) (hn : O ≠ K) : NS Z O K := by
  obtain ⟨c, k, h1, h2, h3, -, -⟩ := Cond.noSuperclass_spec w
  obtain ⟨t, kt, g1, -⟩ := Cond.instantiable_spec wk
  have ne := ids_ne h1 g1 hn
  refine ⟨c, t, h1, g1, fun fuel => ?_⟩
  cases fuel with
  | zero => rfl
  | succ f => simp [Vm.isSubclassAux, ne, h2, h3]
theorem own_NSno {Z : State} {a0 : Array Value} {C S K : String} {m : Nat} (w : (Jvm.Cond.superclass C S).before a0 Z = true) (wk : (Jvm.Cond.instantiable K m).before a0 Z = true) (n : NS Z C K) (hn : C ≠ K) : ∃ c t, Z.vm.findClass C = some c ∧ Z.vm.findClass K = some t ∧ Z.vm.assignable c t = false := by
  obtain ⟨c, t, h0, g0, n3⟩ := n
  obtain ⟨p, k, kp, h1, h2, h3, h4, h5, -, h7⟩ := Cond.superclass_spec h0 w
  obtain ⟨t', k', g1, g2, g5, g7, -⟩ := Cond.instantiable_spec wk
  cases g0.symm.trans g1
  have g8 : k'.isInterface = false := by
    cases hi : k'.isInterface <;> simp [hi] at g7 ⊢
  have ne := ids_ne h0 g0 hn
  refine ⟨c, t, h0, g0, ?_⟩
  show Z.vm.assignableAux (255 + 1) c t = false
  simp [Vm.assignableAux, ne, h2, g2, h5, g5, g8, Vm.isSubclass, n3]
theorem own_monoW {s t : State} {o : Outcome} {L : List Loc} {k n k' n' : Nat} (h : ReturnedEndW s o t L k n) (hk : k ≤ k') (hn : n ≤ n') : ReturnedEndW s o t L k' n' := ⟨h.1, h.2.1, h.2.2.1, h.2.2.2.mono hk hn⟩
theorem own_ldcSL {p : Program} {l : Launch} {e : Env} {R : Room} {s : State} {vm0 : Vm} {m : MethodId} {args : Array Value} {below : List Frame} {meth : Method} {c : Code} {T : State} {locs : List Loc} {cells slots : Nat} {Z : State} {a0 : Array Value} {h : Heap}
    (X : Stand p l e R (s.setVm vm0) m args below meth c T locs cells slots) (hx : p.tables.exec = Jvm.exec) (hZ : Z.Warmed39 vm0) {own text : String} {index : Nat} (hown : vm0.findClass own = some m.cls) (w : (Jvm.Cond.stringLink own index text).before a0 Z = true) (wS : ∀ a ∈ Bundle.stringAtoms, a.before a0 Z = true)
    (eT : T.heap = h) {k0 : Nat} (hS : s.Since vm0 k0) (hk : k0 ≤ h.size) {g : JFrame} (hg : g.method = m) (hd : decode c.code g.pc = .ok (.ldc index, 2)) {n : Nat} (hn : 4 * text.toList.length ≤ n) (hbig : n ≤ 536870912) (hc : cells + 2 ≤ R.cells) (hl : slots + (n + 4) ≤ R.slots) :
    ∃ (a : Addr) (T' : State) (h' : Heap) (k1 : Nat), Stand p l e R (s.setVm T'.vm) m args below meth c T' locs (cells + 2) (slots + (n + 4)) ∧ T'.heap = h' ∧ Ext h h' ∧ s.Since T'.vm k1 ∧ k1 ≤ h'.size ∧ Z.Warmed39 (s.setVm T'.vm).vm ∧ (s.setVm T'.vm).vm.findClass own = some m.cls ∧ Lit (s.setVm T'.vm) own index a ∧ (s.setVm vm0).Warmed39 T'.vm ∧
      ∀ target, Steps p.tables e below (T'.setTop { g with pc := g.pc + 2, stack := .ref a :: g.stack }) target → Steps p.tables e below (T.setTop g) target := by
  have wS' : ∀ d ∈ Bundle.stringAtoms, d.before args (s.setVm vm0) = true := fun d hd => by
    have q := wS d hd
    simp only [Bundle.stringAtoms, List.mem_cons, List.not_mem_nil, or_false] at hd
    rcases hd with rfl | rfl | rfl | rfl | rfl | rfl | rfl
    · exact mv (s := s.setVm vm0) hZ q
    · exact mv (s := s.setVm vm0) hZ q
    · exact mvA (s := s.setVm vm0) hZ q
    · exact mv (s := s.setVm vm0) hZ q
    · exact mv (s := s.setVm vm0) hZ q
    · exact mv (s := s.setVm vm0) hZ q
    · exact mv (s := s.setVm vm0) hZ q
  obtain ⟨a, T', X', hS', ⟨kk, hkk, hrr⟩, hb, -, st⟩ := X.ldcStringCold hx (own := own) hown (mvS hZ w) wS' hg hd hn hbig hc hl
  subst eT
  have hf : T'.vm.findClass own = some m.cls := by rw [hS'.1.alike.findClass]; exact hown
  exact ⟨a, T', _, _, X', rfl, ext_of hb, hS.trans hS' (Nat.le_trans hk (ext_of hb).1), Nat.le_refl _, State.Warmed39.trans (t := s.setVm vm0) hZ hS'.1, hf, by simp [Lit, State.resolvedAt?, hf, hkk, hrr], hS'.1, st⟩
theorem own_selfsel {Z s : State} {a0 args : Array Value} {y : MethodName} {n : Nat} (hZ : Z.Warmed39 s.vm) (wi : (Jvm.Cond.instantiable y.cls n).before a0 Z = true) (wm : (Jvm.Cond.instanceMethod y).before a0 Z = true) (wp : (Jvm.Cond.privateMethod y).before a0 Z = true) (hy : y.cls ≠ "java/lang/invoke/MethodHandle" ∧ y.cls ≠ "java/lang/invoke/VarHandle") : (Jvm.Cond.selects y.cls y y).before args s = true := by
  obtain ⟨c, k, h1, h2, -, h4, -⟩ := Cond.instantiable_spec (mvT (args := args) hZ wi)
  have g8 : k.isInterface = false := by
    cases hi : k.isInterface <;> simp [hi] at h4 ⊢
  exact selects_self_of_private h1 h2 g8 (Cond.privateMethod_at (mvP hZ wp (args := #[]))) (mvT hZ wm) hy
theorem own_addeq {k a b m n : Nat} (h : k = a + b) (h1 : a = m) (h2 : m + b = n) : k = n := by subst h1; exact h.trans h2
theorem own_lt {a b : Nat} (h : a < b) : a < b := h
theorem own_ne {a b : Nat} (h : a < b ∨ b < a) : a ≠ b := by omega

theorem own_pn0 : plainName "com/example/ratebook/ratebook/CellRangeOverlapsPinLaw" = true := by first | (simp [plainName, overriddenIn]; done) | decide +kernel
theorem own_pn1 : plainName "java/lang/Record" = true := by first | (simp [plainName, overriddenIn]; done) | decide +kernel
theorem own_pn2 : plainName "com/example/ratebook/ratebook/CellRange" = true := by first | (simp [plainName, overriddenIn]; done) | decide +kernel
theorem own_pd0 : parseMethodDescriptor "()V" = some ⟨[], none⟩ := by decide +kernel
theorem own_pd1 : parseMethodDescriptor "(I)I" = some ⟨[.int], some .int⟩ := by decide +kernel
theorem own_pd2 : parseMethodDescriptor "(II)I" = some ⟨[.int, .int], some .int⟩ := by decide +kernel
theorem own_pd3 : parseMethodDescriptor "(IIII)V" = some ⟨[.int, .int, .int, .int], none⟩ := by decide +kernel
theorem own_pd4 : parseMethodDescriptor "(Lcom/example/ratebook/ratebook/CellRange;)Z" = some ⟨[(.object "com/example/ratebook/ratebook/CellRange")], some .boolean⟩ := by decide +kernel
theorem own_d1_0 : decode method_2_code 0 = .ok (.iload_n 0, 1) := by decide +kernel
theorem own_d1_1 : decode method_2_code 1 = .ok (.ldc 7, 2) := by decide +kernel
theorem own_d1_3 : decode method_2_code 3 = .ok (.iand, 1) := by decide +kernel
theorem own_d1_4 : decode method_2_code 4 = .ok (.ldc 10, 2) := by decide +kernel
theorem own_d1_6 : decode method_2_code 6 = .ok (.irem, 1) := by decide +kernel
theorem own_d1_7 : decode method_2_code 7 = .ok (.iconst 1, 1) := by decide +kernel
theorem own_d1_8 : decode method_2_code 8 = .ok (.iadd, 1) := by decide +kernel
theorem own_d1_9 : decode method_2_code 9 = .ok (.ireturn, 1) := by decide +kernel
theorem own_ef_own_rm1 (m : MethodId) (x0 : Int32) : entryFrame m #[(.int x0)] 1 = mkF m 0 #[.val (.int x0)] [] := by first | (simp [entryFrame, mkF, argsToLocals, Value.category]; done) | rfl
def own_Q1 (Z : State) (p_1 : Int32) (h0 : Heap) (n0 : Nat) (v : Option Value) (h : Heap) (L : List Loc) : Prop := ∃ (r_ : Int32), v = some (.int r_) ∧ Fr n0 L ∧ r_ = (((p_1 &&& (2147483647 : Int32)) % (1048576 : Int32)) + (1 : Int32)) ∧ h = h0
set_option maxRecDepth 65536 in
set_option maxHeartbeats 40000000 in
theorem own_rm1 (l : Launch) (Z : State) (a0 : Array Value) (hw : ∀ d ∈ tables_1, d.before a0 Z = true) (ws : List Jvm.Cond) (p_1 : Int32) (h0 : Heap) (n0 : Nat) (Z0 : n0 ≤ h0.size) :
    MetFree l (⟨"com/example/ratebook/ratebook/CellRangeOverlapsPinLaw", "row", "(I)I"⟩ : MethodName) (head1 (Jvm.Cond.code (⟨"com/example/ratebook/ratebook/CellRangeOverlapsPinLaw", "row", "(I)I"⟩ : MethodName) method_2_code 1 (some .int) :: ws) ({ frames := 0, cells := 0, slots := 0, locals := 0 } : Room)) (fun a U => a = #[(.int p_1)] ∧ Z.Warmed39 U.vm ∧ U.heap = h0) (fun _ _ _ _ _ => True) (fun _ U o U' => ∃ v L, o = .returned v ∧ own_Q1 Z p_1 h0 n0 v U'.heap L ∧ FrameEnd U o U' L ({ frames := 0, cells := 0, slots := 0, locals := 0 } : Room).cells ({ frames := 0, cells := 0, slots := 0, locals := 0 } : Room).slots) := by
  refine MetFree.of_bodySF (plainFor_of_name own_pn0) hisR ?_
  intro p e s m args below meth c s₁ Bd hml0 hP hK
  obtain ⟨rfl, hZ, hh⟩ := hP
  have hx := Bd.exec
  have hby := Bd.bytes
  have hml : c.maxLocals = 1 := hml0
  have hown : s.vm.findClass "com/example/ratebook/ratebook/CellRangeOverlapsPinLaw" = some m.cls := findClass_of_methodNamed Bd.named
  have hnm := (name_of_methodNamed Bd.named Bd.method).1
  have X0 : Stand p l e ({ frames := 0, cells := 0, slots := 0, locals := 0 } : Room) s m #[(.int p_1)] below meth c s₁ [] 0 0 := Stand.of_body Bd
  have e0 : s₁.heap = h0 := by rw [← hh, Bd.state]; rfl
  have N0 := Fr.nil n0
  have z0 : n0 ≤ h0.size := Z0
  show own_Go p.tables e below (fun t o => t.status = .running ∧ Ended t below o ∧ ∃ v L, o = .returned v ∧ own_Q1 Z p_1 h0 n0 v t.heap L ∧ FrameEnd s o t L ({ frames := 0, cells := 0, slots := 0, locals := 0 } : Room).cells ({ frames := 0, cells := 0, slots := 0, locals := 0 } : Room).slots) s₁ (entryFrame m #[(.int p_1)] 1)
  rw [own_ef_own_rm1 m p_1]
  show own_Go _ _ _ _ s₁ (mkF m 0 #[.val (.int p_1)] [])
  refine own_go (fun _ k => XS.iloadN X0.here hx rfl (hb hby own_d1_0) rfl k) ?_
  show own_Go _ _ _ _ s₁ (mkF m 1 #[.val (.int p_1)] [(.int p_1)])
  refine own_go (fun _ k => X0.ldcInt hx hown (mvT hZ (hw _ (List.mem_of_getElem? (i := 4) rfl))) (g := (mkF m 1 #[.val (.int p_1)] [(.int p_1)])) rfl (hb hby own_d1_1) _ k) ?_
  show own_Go _ _ _ _ s₁ (mkF m 3 #[.val (.int p_1)] [(.int (2147483647 : Int32)), (.int p_1)])
  refine own_go (fun _ k => XS.iand X0.here hx rfl (hb hby own_d1_3) rfl k) ?_
  show own_Go _ _ _ _ s₁ (mkF m 4 #[.val (.int p_1)] [(.int (p_1 &&& (2147483647 : Int32)))])
  refine own_go (fun _ k => X0.ldcInt hx hown (mvT hZ (hw _ (List.mem_of_getElem? (i := 5) rfl))) (g := (mkF m 4 #[.val (.int p_1)] [(.int (p_1 &&& (2147483647 : Int32)))])) rfl (hb hby own_d1_4) _ k) ?_
  show own_Go _ _ _ _ s₁ (mkF m 6 #[.val (.int p_1)] [(.int (1048576 : Int32)), (.int (p_1 &&& (2147483647 : Int32)))])
  have nz1 : (1048576 : Int32) ≠ 0 := by decide
  refine own_go (fun _ k => iremM X0 hx rfl (hb hby own_d1_6) rfl nz1 k) ?_
  show own_Go _ _ _ _ s₁ (mkF m 7 #[.val (.int p_1)] [(.int ((p_1 &&& (2147483647 : Int32)) % (1048576 : Int32)))])
  refine own_go (fun _ k => XS.iconst X0.here hx rfl (hb hby own_d1_7) k) ?_
  show own_Go _ _ _ _ s₁ (mkF m 8 #[.val (.int p_1)] [(.int (1 : Int32)), (.int ((p_1 &&& (2147483647 : Int32)) % (1048576 : Int32)))])
  refine own_go (fun _ k => XS.iadd X0.here hx rfl (hb hby own_d1_8) rfl k) ?_
  show own_Go _ _ _ _ s₁ (mkF m 9 #[.val (.int p_1)] [(.int (((p_1 &&& (2147483647 : Int32)) % (1048576 : Int32)) + (1 : Int32)))])
  obtain ⟨fs, hr, hrun, hended, hW, hsame⟩ := X0.leave (v := some (.int (((p_1 &&& (2147483647 : Int32)) % (1048576 : Int32)) + (1 : Int32)))) (fun h => by rw [Bd.returns] at h; cases h)
  refine ⟨_, _, retOut X0 hx Bd.returns rfl (Or.inl ⟨rfl, Or.inl rfl, _, rfl⟩) (hb hby own_d1_9) hr, hrun, hended, _, _, rfl, ?_, ⟨_, rfl⟩, hW, hsame.mono (by decide) (by decide)⟩
  show own_Q1 Z p_1 h0 n0 _ s₁.heap _
  rw [e0]
  exact ⟨_, rfl, N0, (by rfl), rfl⟩
theorem own_d2_0 : decode method_3_code 0 = .ok (.iload_n 0, 1) := by decide +kernel
theorem own_d2_1 : decode method_3_code 1 = .ok (.ldc 7, 2) := by decide +kernel
theorem own_d2_3 : decode method_3_code 3 = .ok (.iand, 1) := by decide +kernel
theorem own_d2_4 : decode method_3_code 4 = .ok (.sipush 16384, 3) := by decide +kernel
theorem own_d2_7 : decode method_3_code 7 = .ok (.irem, 1) := by decide +kernel
theorem own_d2_8 : decode method_3_code 8 = .ok (.iconst 1, 1) := by decide +kernel
theorem own_d2_9 : decode method_3_code 9 = .ok (.iadd, 1) := by decide +kernel
theorem own_d2_10 : decode method_3_code 10 = .ok (.ireturn, 1) := by decide +kernel
theorem own_ef_own_rm2 (m : MethodId) (x0 : Int32) : entryFrame m #[(.int x0)] 1 = mkF m 0 #[.val (.int x0)] [] := by first | (simp [entryFrame, mkF, argsToLocals, Value.category]; done) | rfl
def own_Q2 (Z : State) (p_1 : Int32) (h0 : Heap) (n0 : Nat) (v : Option Value) (h : Heap) (L : List Loc) : Prop := ∃ (r_ : Int32), v = some (.int r_) ∧ Fr n0 L ∧ r_ = (((p_1 &&& (2147483647 : Int32)) % (16384 : Int32)) + (1 : Int32)) ∧ h = h0
set_option maxRecDepth 65536 in
set_option maxHeartbeats 40000000 in
theorem own_rm2 (l : Launch) (Z : State) (a0 : Array Value) (hw : ∀ d ∈ tables_1, d.before a0 Z = true) (ws : List Jvm.Cond) (p_1 : Int32) (h0 : Heap) (n0 : Nat) (Z0 : n0 ≤ h0.size) :
    MetFree l (⟨"com/example/ratebook/ratebook/CellRangeOverlapsPinLaw", "col", "(I)I"⟩ : MethodName) (head1 (Jvm.Cond.code (⟨"com/example/ratebook/ratebook/CellRangeOverlapsPinLaw", "col", "(I)I"⟩ : MethodName) method_3_code 1 (some .int) :: ws) ({ frames := 0, cells := 0, slots := 0, locals := 0 } : Room)) (fun a U => a = #[(.int p_1)] ∧ Z.Warmed39 U.vm ∧ U.heap = h0) (fun _ _ _ _ _ => True) (fun _ U o U' => ∃ v L, o = .returned v ∧ own_Q2 Z p_1 h0 n0 v U'.heap L ∧ FrameEnd U o U' L ({ frames := 0, cells := 0, slots := 0, locals := 0 } : Room).cells ({ frames := 0, cells := 0, slots := 0, locals := 0 } : Room).slots) := by
  refine MetFree.of_bodySF (plainFor_of_name own_pn0) hisR ?_
  intro p e s m args below meth c s₁ Bd hml0 hP hK
  obtain ⟨rfl, hZ, hh⟩ := hP
  have hx := Bd.exec
  have hby := Bd.bytes
  have hml : c.maxLocals = 1 := hml0
  have hown : s.vm.findClass "com/example/ratebook/ratebook/CellRangeOverlapsPinLaw" = some m.cls := findClass_of_methodNamed Bd.named
  have hnm := (name_of_methodNamed Bd.named Bd.method).1
  have X0 : Stand p l e ({ frames := 0, cells := 0, slots := 0, locals := 0 } : Room) s m #[(.int p_1)] below meth c s₁ [] 0 0 := Stand.of_body Bd
  have e0 : s₁.heap = h0 := by rw [← hh, Bd.state]; rfl
  have N0 := Fr.nil n0
  have z0 : n0 ≤ h0.size := Z0
  show own_Go p.tables e below (fun t o => t.status = .running ∧ Ended t below o ∧ ∃ v L, o = .returned v ∧ own_Q2 Z p_1 h0 n0 v t.heap L ∧ FrameEnd s o t L ({ frames := 0, cells := 0, slots := 0, locals := 0 } : Room).cells ({ frames := 0, cells := 0, slots := 0, locals := 0 } : Room).slots) s₁ (entryFrame m #[(.int p_1)] 1)
  rw [own_ef_own_rm2 m p_1]
  show own_Go _ _ _ _ s₁ (mkF m 0 #[.val (.int p_1)] [])
  refine own_go (fun _ k => XS.iloadN X0.here hx rfl (hb hby own_d2_0) rfl k) ?_
  show own_Go _ _ _ _ s₁ (mkF m 1 #[.val (.int p_1)] [(.int p_1)])
  refine own_go (fun _ k => X0.ldcInt hx hown (mvT hZ (hw _ (List.mem_of_getElem? (i := 4) rfl))) (g := (mkF m 1 #[.val (.int p_1)] [(.int p_1)])) rfl (hb hby own_d2_1) _ k) ?_
  show own_Go _ _ _ _ s₁ (mkF m 3 #[.val (.int p_1)] [(.int (2147483647 : Int32)), (.int p_1)])
  refine own_go (fun _ k => XS.iand X0.here hx rfl (hb hby own_d2_3) rfl k) ?_
  show own_Go _ _ _ _ s₁ (mkF m 4 #[.val (.int p_1)] [(.int (p_1 &&& (2147483647 : Int32)))])
  refine own_go (fun _ k => XS.sipush X0.here hx rfl (hb hby own_d2_4) k) ?_
  show own_Go _ _ _ _ s₁ (mkF m 7 #[.val (.int p_1)] [(.int (16384 : Int32)), (.int (p_1 &&& (2147483647 : Int32)))])
  have nz1 : (16384 : Int32) ≠ 0 := by decide
  refine own_go (fun _ k => iremM X0 hx rfl (hb hby own_d2_7) rfl nz1 k) ?_
  show own_Go _ _ _ _ s₁ (mkF m 8 #[.val (.int p_1)] [(.int ((p_1 &&& (2147483647 : Int32)) % (16384 : Int32)))])
  refine own_go (fun _ k => XS.iconst X0.here hx rfl (hb hby own_d2_8) k) ?_
  show own_Go _ _ _ _ s₁ (mkF m 9 #[.val (.int p_1)] [(.int (1 : Int32)), (.int ((p_1 &&& (2147483647 : Int32)) % (16384 : Int32)))])
  refine own_go (fun _ k => XS.iadd X0.here hx rfl (hb hby own_d2_9) rfl k) ?_
  show own_Go _ _ _ _ s₁ (mkF m 10 #[.val (.int p_1)] [(.int (((p_1 &&& (2147483647 : Int32)) % (16384 : Int32)) + (1 : Int32)))])
  obtain ⟨fs, hr, hrun, hended, hW, hsame⟩ := X0.leave (v := some (.int (((p_1 &&& (2147483647 : Int32)) % (16384 : Int32)) + (1 : Int32)))) (fun h => by rw [Bd.returns] at h; cases h)
  refine ⟨_, _, retOut X0 hx Bd.returns rfl (Or.inl ⟨rfl, Or.inl rfl, _, rfl⟩) (hb hby own_d2_10) hr, hrun, hended, _, _, rfl, ?_, ⟨_, rfl⟩, hW, hsame.mono (by decide) (by decide)⟩
  show own_Q2 Z p_1 h0 n0 _ s₁.heap _
  rw [e0]
  exact ⟨_, rfl, N0, (by rfl), rfl⟩
theorem own_d3_0 : decode jdk_29_method_69_code 0 = .ok (.iload_n 0, 1) := by decide +kernel
theorem own_d3_1 : decode jdk_29_method_69_code 1 = .ok (.iload_n 1, 1) := by decide +kernel
theorem own_d3_2 : decode jdk_29_method_69_code 2 = .ok (.if_icmp .gt 7, 3) := by decide +kernel
theorem own_d3_5 : decode jdk_29_method_69_code 5 = .ok (.iload_n 0, 1) := by decide +kernel
theorem own_d3_6 : decode jdk_29_method_69_code 6 = .ok (.goto 4, 3) := by decide +kernel
theorem own_d3_9 : decode jdk_29_method_69_code 9 = .ok (.iload_n 1, 1) := by decide +kernel
theorem own_d3_10 : decode jdk_29_method_69_code 10 = .ok (.ireturn, 1) := by decide +kernel
theorem own_ef_own_rm3 (m : MethodId) (x0 : Int32) (x1 : Int32) : entryFrame m #[(.int x0), (.int x1)] 2 = mkF m 0 #[.val (.int x0), .val (.int x1)] [] := by first | (simp [entryFrame, mkF, argsToLocals, Value.category]; done) | rfl
def own_rm3_ret (p_1 : Int32) (p_2 : Int32) : Int32 := if p_2 < p_1 then p_2 else p_1
def own_Q3 (Z : State) (p_1 : Int32) (p_2 : Int32) (h0 : Heap) (n0 : Nat) (v : Option Value) (h : Heap) (L : List Loc) : Prop := ∃ (r_ : Int32), v = some (.int r_) ∧ Fr n0 L ∧ r_ = (own_rm3_ret p_1 p_2) ∧ h = h0
set_option maxRecDepth 65536 in
set_option maxHeartbeats 40000000 in
theorem own_rm3 (l : Launch) (Z : State) (a0 : Array Value) (hw : ∀ d ∈ tables_1, d.before a0 Z = true) (ws : List Jvm.Cond) (p_1 : Int32) (p_2 : Int32) (h0 : Heap) (n0 : Nat) (Z0 : n0 ≤ h0.size) :
    MetFree l (⟨"java/lang/Math", "min", "(II)I"⟩ : MethodName) (head1 (Jvm.Cond.code (⟨"java/lang/Math", "min", "(II)I"⟩ : MethodName) jdk_29_method_69_code 2 (some .int) :: ws) ({ frames := 0, cells := 0, slots := 0, locals := 0 } : Room)) (fun a U => a = #[(.int p_1), (.int p_2)] ∧ Z.Warmed39 U.vm ∧ U.heap = h0) (fun _ _ _ _ _ => True) (fun _ U o U' => ∃ v L, o = .returned v ∧ own_Q3 Z p_1 p_2 h0 n0 v U'.heap L ∧ FrameEnd U o U' L ({ frames := 0, cells := 0, slots := 0, locals := 0 } : Room).cells ({ frames := 0, cells := 0, slots := 0, locals := 0 } : Room).slots) := by
  refine MetFree.of_bodySF (Jvm.Free.JP.mathPlain rfl (by decide +kernel)) hisR ?_
  intro p e s m args below meth c s₁ Bd hml0 hP hK
  obtain ⟨rfl, hZ, hh⟩ := hP
  have hx := Bd.exec
  have hby := Bd.bytes
  have hml : c.maxLocals = 2 := hml0
  have hown : s.vm.findClass "java/lang/Math" = some m.cls := findClass_of_methodNamed Bd.named
  have hnm := (name_of_methodNamed Bd.named Bd.method).1
  have X0 : Stand p l e ({ frames := 0, cells := 0, slots := 0, locals := 0 } : Room) s m #[(.int p_1), (.int p_2)] below meth c s₁ [] 0 0 := Stand.of_body Bd
  have e0 : s₁.heap = h0 := by rw [← hh, Bd.state]; rfl
  have N0 := Fr.nil n0
  have z0 : n0 ≤ h0.size := Z0
  show own_Go p.tables e below (fun t o => t.status = .running ∧ Ended t below o ∧ ∃ v L, o = .returned v ∧ own_Q3 Z p_1 p_2 h0 n0 v t.heap L ∧ FrameEnd s o t L ({ frames := 0, cells := 0, slots := 0, locals := 0 } : Room).cells ({ frames := 0, cells := 0, slots := 0, locals := 0 } : Room).slots) s₁ (entryFrame m #[(.int p_1), (.int p_2)] 2)
  rw [own_ef_own_rm3 m p_1 p_2]
  show own_Go _ _ _ _ s₁ (mkF m 0 #[.val (.int p_1), .val (.int p_2)] [])
  refine own_go (fun _ k => XS.iloadN X0.here hx rfl (hb hby own_d3_0) rfl k) ?_
  show own_Go _ _ _ _ s₁ (mkF m 1 #[.val (.int p_1), .val (.int p_2)] [(.int p_1)])
  refine own_go (fun _ k => XS.iloadN X0.here hx rfl (hb hby own_d3_1) rfl k) ?_
  show own_Go _ _ _ _ s₁ (mkF m 2 #[.val (.int p_1), .val (.int p_2)] [(.int p_2), (.int p_1)])
  by_cases hc1 : p_2 < p_1
  · refine own_go (fun _ k => XS.icmpYes X0.here hx rfl (pc0 := 2) (pc' := 9) rfl (hb hby own_d3_2) rfl (Jvm.Free.XT.ii_gt_t hc1) (by decide) (by decide) k) ?_
    show own_Go _ _ _ _ s₁ (mkF m 9 #[.val (.int p_1), .val (.int p_2)] [])
    refine own_go (fun _ k => XS.iloadN X0.here hx rfl (hb hby own_d3_9) rfl k) ?_
    show own_Go _ _ _ _ s₁ (mkF m 10 #[.val (.int p_1), .val (.int p_2)] [(.int p_2)])
    obtain ⟨fs, hr, hrun, hended, hW, hsame⟩ := X0.leave (v := some (.int p_2)) (fun h => by rw [Bd.returns] at h; cases h)
    refine ⟨_, _, retOut X0 hx Bd.returns rfl (Or.inl ⟨rfl, Or.inl rfl, _, rfl⟩) (hb hby own_d3_10) hr, hrun, hended, _, _, rfl, ?_, ⟨_, rfl⟩, hW, hsame.mono (by decide) (by decide)⟩
    show own_Q3 Z p_1 p_2 h0 n0 _ s₁.heap _
    rw [e0]
    exact ⟨_, rfl, N0, (by first | rfl | simp only [own_rm3_ret, if_pos hc1]), rfl⟩
  · refine own_go (fun _ k => XS.icmpNo X0.here hx rfl (hb hby own_d3_2) rfl (Jvm.Free.XT.ii_gt_f hc1) k) ?_
    show own_Go _ _ _ _ s₁ (mkF m 5 #[.val (.int p_1), .val (.int p_2)] [])
    refine own_go (fun _ k => XS.iloadN X0.here hx rfl (hb hby own_d3_5) rfl k) ?_
    show own_Go _ _ _ _ s₁ (mkF m 6 #[.val (.int p_1), .val (.int p_2)] [(.int p_1)])
    refine own_go (fun _ k => XS.goto X0.here hx rfl (pc0 := 6) (pc' := 10) rfl (hb hby own_d3_6) (by decide) (by decide) k) ?_
    show own_Go _ _ _ _ s₁ (mkF m 10 #[.val (.int p_1), .val (.int p_2)] [(.int p_1)])
    obtain ⟨fs, hr, hrun, hended, hW, hsame⟩ := X0.leave (v := some (.int p_1)) (fun h => by rw [Bd.returns] at h; cases h)
    refine ⟨_, _, retOut X0 hx Bd.returns rfl (Or.inl ⟨rfl, Or.inl rfl, _, rfl⟩) (hb hby own_d3_10) hr, hrun, hended, _, _, rfl, ?_, ⟨_, rfl⟩, hW, hsame.mono (by decide) (by decide)⟩
    show own_Q3 Z p_1 p_2 h0 n0 _ s₁.heap _
    rw [e0]
    exact ⟨_, rfl, N0, (by first | rfl | simp only [own_rm3_ret, if_neg hc1]), rfl⟩
theorem own_d4_0 : decode jdk_29_method_65_code 0 = .ok (.iload_n 0, 1) := by decide +kernel
theorem own_d4_1 : decode jdk_29_method_65_code 1 = .ok (.iload_n 1, 1) := by decide +kernel
theorem own_d4_2 : decode jdk_29_method_65_code 2 = .ok (.if_icmp .lt 7, 3) := by decide +kernel
theorem own_d4_5 : decode jdk_29_method_65_code 5 = .ok (.iload_n 0, 1) := by decide +kernel
theorem own_d4_6 : decode jdk_29_method_65_code 6 = .ok (.goto 4, 3) := by decide +kernel
theorem own_d4_9 : decode jdk_29_method_65_code 9 = .ok (.iload_n 1, 1) := by decide +kernel
theorem own_d4_10 : decode jdk_29_method_65_code 10 = .ok (.ireturn, 1) := by decide +kernel
theorem own_ef_own_rm4 (m : MethodId) (x0 : Int32) (x1 : Int32) : entryFrame m #[(.int x0), (.int x1)] 2 = mkF m 0 #[.val (.int x0), .val (.int x1)] [] := by first | (simp [entryFrame, mkF, argsToLocals, Value.category]; done) | rfl
def own_rm4_ret (p_1 : Int32) (p_2 : Int32) : Int32 := if p_1 < p_2 then p_2 else p_1
def own_Q4 (Z : State) (p_1 : Int32) (p_2 : Int32) (h0 : Heap) (n0 : Nat) (v : Option Value) (h : Heap) (L : List Loc) : Prop := ∃ (r_ : Int32), v = some (.int r_) ∧ Fr n0 L ∧ r_ = (own_rm4_ret p_1 p_2) ∧ h = h0
set_option maxRecDepth 65536 in
set_option maxHeartbeats 40000000 in
theorem own_rm4 (l : Launch) (Z : State) (a0 : Array Value) (hw : ∀ d ∈ tables_1, d.before a0 Z = true) (ws : List Jvm.Cond) (p_1 : Int32) (p_2 : Int32) (h0 : Heap) (n0 : Nat) (Z0 : n0 ≤ h0.size) :
    MetFree l (⟨"java/lang/Math", "max", "(II)I"⟩ : MethodName) (head1 (Jvm.Cond.code (⟨"java/lang/Math", "max", "(II)I"⟩ : MethodName) jdk_29_method_65_code 2 (some .int) :: ws) ({ frames := 0, cells := 0, slots := 0, locals := 0 } : Room)) (fun a U => a = #[(.int p_1), (.int p_2)] ∧ Z.Warmed39 U.vm ∧ U.heap = h0) (fun _ _ _ _ _ => True) (fun _ U o U' => ∃ v L, o = .returned v ∧ own_Q4 Z p_1 p_2 h0 n0 v U'.heap L ∧ FrameEnd U o U' L ({ frames := 0, cells := 0, slots := 0, locals := 0 } : Room).cells ({ frames := 0, cells := 0, slots := 0, locals := 0 } : Room).slots) := by
  refine MetFree.of_bodySF (Jvm.Free.JP.mathPlain rfl (by decide +kernel)) hisR ?_
  intro p e s m args below meth c s₁ Bd hml0 hP hK
  obtain ⟨rfl, hZ, hh⟩ := hP
  have hx := Bd.exec
  have hby := Bd.bytes
  have hml : c.maxLocals = 2 := hml0
  have hown : s.vm.findClass "java/lang/Math" = some m.cls := findClass_of_methodNamed Bd.named
  have hnm := (name_of_methodNamed Bd.named Bd.method).1
  have X0 : Stand p l e ({ frames := 0, cells := 0, slots := 0, locals := 0 } : Room) s m #[(.int p_1), (.int p_2)] below meth c s₁ [] 0 0 := Stand.of_body Bd
  have e0 : s₁.heap = h0 := by rw [← hh, Bd.state]; rfl
  have N0 := Fr.nil n0
  have z0 : n0 ≤ h0.size := Z0
  show own_Go p.tables e below (fun t o => t.status = .running ∧ Ended t below o ∧ ∃ v L, o = .returned v ∧ own_Q4 Z p_1 p_2 h0 n0 v t.heap L ∧ FrameEnd s o t L ({ frames := 0, cells := 0, slots := 0, locals := 0 } : Room).cells ({ frames := 0, cells := 0, slots := 0, locals := 0 } : Room).slots) s₁ (entryFrame m #[(.int p_1), (.int p_2)] 2)
  rw [own_ef_own_rm4 m p_1 p_2]
  show own_Go _ _ _ _ s₁ (mkF m 0 #[.val (.int p_1), .val (.int p_2)] [])
  refine own_go (fun _ k => XS.iloadN X0.here hx rfl (hb hby own_d4_0) rfl k) ?_
  show own_Go _ _ _ _ s₁ (mkF m 1 #[.val (.int p_1), .val (.int p_2)] [(.int p_1)])
  refine own_go (fun _ k => XS.iloadN X0.here hx rfl (hb hby own_d4_1) rfl k) ?_
  show own_Go _ _ _ _ s₁ (mkF m 2 #[.val (.int p_1), .val (.int p_2)] [(.int p_2), (.int p_1)])
  by_cases hc1 : p_1 < p_2
  · refine own_go (fun _ k => XS.icmpYes X0.here hx rfl (pc0 := 2) (pc' := 9) rfl (hb hby own_d4_2) rfl (Jvm.Free.XT.ii_lt_t hc1) (by decide) (by decide) k) ?_
    show own_Go _ _ _ _ s₁ (mkF m 9 #[.val (.int p_1), .val (.int p_2)] [])
    refine own_go (fun _ k => XS.iloadN X0.here hx rfl (hb hby own_d4_9) rfl k) ?_
    show own_Go _ _ _ _ s₁ (mkF m 10 #[.val (.int p_1), .val (.int p_2)] [(.int p_2)])
    obtain ⟨fs, hr, hrun, hended, hW, hsame⟩ := X0.leave (v := some (.int p_2)) (fun h => by rw [Bd.returns] at h; cases h)
    refine ⟨_, _, retOut X0 hx Bd.returns rfl (Or.inl ⟨rfl, Or.inl rfl, _, rfl⟩) (hb hby own_d4_10) hr, hrun, hended, _, _, rfl, ?_, ⟨_, rfl⟩, hW, hsame.mono (by decide) (by decide)⟩
    show own_Q4 Z p_1 p_2 h0 n0 _ s₁.heap _
    rw [e0]
    exact ⟨_, rfl, N0, (by first | rfl | simp only [own_rm4_ret, if_pos hc1]), rfl⟩
  · refine own_go (fun _ k => XS.icmpNo X0.here hx rfl (hb hby own_d4_2) rfl (Jvm.Free.XT.ii_lt_f hc1) k) ?_
    show own_Go _ _ _ _ s₁ (mkF m 5 #[.val (.int p_1), .val (.int p_2)] [])
    refine own_go (fun _ k => XS.iloadN X0.here hx rfl (hb hby own_d4_5) rfl k) ?_
    show own_Go _ _ _ _ s₁ (mkF m 6 #[.val (.int p_1), .val (.int p_2)] [(.int p_1)])
    refine own_go (fun _ k => XS.goto X0.here hx rfl (pc0 := 6) (pc' := 10) rfl (hb hby own_d4_6) (by decide) (by decide) k) ?_
    show own_Go _ _ _ _ s₁ (mkF m 10 #[.val (.int p_1), .val (.int p_2)] [(.int p_1)])
    obtain ⟨fs, hr, hrun, hended, hW, hsame⟩ := X0.leave (v := some (.int p_1)) (fun h => by rw [Bd.returns] at h; cases h)
    refine ⟨_, _, retOut X0 hx Bd.returns rfl (Or.inl ⟨rfl, Or.inl rfl, _, rfl⟩) (hb hby own_d4_10) hr, hrun, hended, _, _, rfl, ?_, ⟨_, rfl⟩, hW, hsame.mono (by decide) (by decide)⟩
    show own_Q4 Z p_1 p_2 h0 n0 _ s₁.heap _
    rw [e0]
    exact ⟨_, rfl, N0, (by first | rfl | simp only [own_rm4_ret, if_neg hc1]), rfl⟩
theorem own_d6_0 : decode jdk_30_method_1_code 0 = .ok (.aload_n 0, 1) := by decide +kernel
theorem own_d6_1 : decode jdk_30_method_1_code 1 = .ok (.invokespecial 1, 3) := by decide +kernel
theorem own_d6_4 : decode jdk_30_method_1_code 4 = .ok (.return_, 1) := by decide +kernel
theorem own_ef_own_rm6 (m : MethodId) (x0 : Addr) : entryFrame m #[(.ref x0)] 1 = mkF m 0 #[.val (.ref x0)] [] := by first | (simp [entryFrame, mkF, argsToLocals, Value.category]; done) | rfl
def own_Q6 (Z : State) (a_1 : Addr) (h0 : Heap) (n0 : Nat) (v : Option Value) (h : Heap) (L : List Loc) : Prop := v = none ∧ Fr n0 L ∧ h = h0
set_option maxRecDepth 65536 in
set_option maxHeartbeats 40000000 in
theorem own_rm6 (l : Launch) (Z : State) (a0 : Array Value) (hw : ∀ d ∈ tables_1, d.before a0 Z = true) (ws : List Jvm.Cond) (a_1 : Addr) (h0 : Heap) (n0 : Nat) (Z0 : n0 ≤ h0.size) :
    MetFree l (⟨"java/lang/Record", "<init>", "()V"⟩ : MethodName) (head1 (Jvm.Cond.code (⟨"java/lang/Record", "<init>", "()V"⟩ : MethodName) jdk_30_method_1_code 1 none :: ws) ({ frames := 1, cells := 0, slots := 0, locals := 12 } : Room)) (fun a U => a = #[(.ref a_1)] ∧ Z.Warmed39 U.vm ∧ U.heap = h0) (fun _ _ _ _ _ => True) (fun _ U o U' => ∃ v L, o = .returned v ∧ own_Q6 Z a_1 h0 n0 v U'.heap L ∧ FrameEnd U o U' L ({ frames := 1, cells := 0, slots := 0, locals := 12 } : Room).cells ({ frames := 1, cells := 0, slots := 0, locals := 12 } : Room).slots) := by
  refine MetFree.of_bodySF (plainFor_of_name own_pn1) hisR ?_
  intro p e s m args below meth c s₁ Bd hml0 hP hK
  obtain ⟨rfl, hZ, hh⟩ := hP
  have hx := Bd.exec
  have hby := Bd.bytes
  have hml : c.maxLocals = 1 := hml0
  have hown : s.vm.findClass "java/lang/Record" = some m.cls := findClass_of_methodNamed Bd.named
  have hnm := (name_of_methodNamed Bd.named Bd.method).1
  have X0 : Stand p l e ({ frames := 1, cells := 0, slots := 0, locals := 12 } : Room) s m #[(.ref a_1)] below meth c s₁ [] 0 0 := Stand.of_body Bd
  have e0 : s₁.heap = h0 := by rw [← hh, Bd.state]; rfl
  have N0 := Fr.nil n0
  have z0 : n0 ≤ h0.size := Z0
  show own_Go p.tables e below (fun t o => t.status = .running ∧ Ended t below o ∧ ∃ v L, o = .returned v ∧ own_Q6 Z a_1 h0 n0 v t.heap L ∧ FrameEnd s o t L ({ frames := 1, cells := 0, slots := 0, locals := 12 } : Room).cells ({ frames := 1, cells := 0, slots := 0, locals := 12 } : Room).slots) s₁ (entryFrame m #[(.ref a_1)] 1)
  rw [own_ef_own_rm6 m a_1]
  show own_Go _ _ _ _ s₁ (mkF m 0 #[.val (.ref a_1)] [])
  refine own_go (fun _ k => XS.aloadN X0.here hx rfl (hb hby own_d6_0) rfl rfl k) ?_
  show own_Go _ _ _ _ s₁ (mkF m 1 #[.val (.ref a_1)] [(.ref a_1)])
  obtain ⟨T1, X1, e1, st1⟩ := initO X0 hx hZ hown (hw _ (List.mem_of_getElem? (i := 27) rfl)) (hw _ (List.mem_of_getElem? (i := 28) rfl)) (hw _ (List.mem_of_getElem? (i := 29) rfl)) e0 (g := (mkF m 1 #[.val (.ref a_1)] [(.ref a_1)])) rfl (by rw [hml]; rfl) rfl (hb hby own_d6_1) (by decide) (W := 0) (by show 2 * 0 + _ ≤ _; exact Nat.le_of_eq rfl) (by decide)
  refine own_go (fun _ k => st1 _ k) ?_
  show own_Go _ _ _ _ T1 (mkF m 4 #[.val (.ref a_1)] [])
  obtain ⟨fs, hr, hrun, hended, hW, hsame⟩ := X1.leave (v := none) (fun _ => rfl)
  refine ⟨_, _, X1.returnOut hx Bd.returns (hb hby own_d6_4) hr, hrun, hended, _, _, rfl, ?_, ⟨_, rfl⟩, hW, hsame.mono (by decide) (by decide)⟩
  show own_Q6 Z a_1 h0 n0 _ T1.heap _
  rw [e1]
  exact ⟨rfl, N0, rfl⟩
theorem own_d5_0 : decode prog_11_method_1_code 0 = .ok (.aload_n 0, 1) := by decide +kernel
theorem own_d5_1 : decode prog_11_method_1_code 1 = .ok (.invokespecial 1, 3) := by decide +kernel
theorem own_d5_4 : decode prog_11_method_1_code 4 = .ok (.aload_n 0, 1) := by decide +kernel
theorem own_d5_5 : decode prog_11_method_1_code 5 = .ok (.iload_n 1, 1) := by decide +kernel
theorem own_d5_6 : decode prog_11_method_1_code 6 = .ok (.putfield 7, 3) := by decide +kernel
theorem own_d5_9 : decode prog_11_method_1_code 9 = .ok (.aload_n 0, 1) := by decide +kernel
theorem own_d5_10 : decode prog_11_method_1_code 10 = .ok (.iload_n 2, 1) := by decide +kernel
theorem own_d5_11 : decode prog_11_method_1_code 11 = .ok (.putfield 13, 3) := by decide +kernel
theorem own_d5_14 : decode prog_11_method_1_code 14 = .ok (.aload_n 0, 1) := by decide +kernel
theorem own_d5_15 : decode prog_11_method_1_code 15 = .ok (.iload_n 3, 1) := by decide +kernel
theorem own_d5_16 : decode prog_11_method_1_code 16 = .ok (.putfield 16, 3) := by decide +kernel
theorem own_d5_19 : decode prog_11_method_1_code 19 = .ok (.aload_n 0, 1) := by decide +kernel
theorem own_d5_20 : decode prog_11_method_1_code 20 = .ok (.iload 4, 2) := by decide +kernel
theorem own_d5_22 : decode prog_11_method_1_code 22 = .ok (.putfield 19, 3) := by decide +kernel
theorem own_d5_25 : decode prog_11_method_1_code 25 = .ok (.return_, 1) := by decide +kernel
theorem own_ef_own_rm5 (m : MethodId) (x0 : Addr) (x1 : Int32) (x2 : Int32) (x3 : Int32) (x4 : Int32) : entryFrame m #[(.ref x0), (.int x1), (.int x2), (.int x3), (.int x4)] 5 = mkF m 0 #[.val (.ref x0), .val (.int x1), .val (.int x2), .val (.int x3), .val (.int x4)] [] := by first | (simp [entryFrame, mkF, argsToLocals, Value.category]; done) | rfl
def own_Q5 (Z : State) (a_1 : Addr) (p_2 : Int32) (p_3 : Int32) (p_4 : Int32) (p_5 : Int32) (w_firstRow_a_1 : Int32) (w_firstColumn_a_1 : Int32) (w_lastRow_a_1 : Int32) (w_lastColumn_a_1 : Int32) (h0 : Heap) (n0 : Nat) (v : Option Value) (h : Heap) (L : List Loc) : Prop := v = none ∧ Fr n0 L ∧ Keep h0 h [a_1] ∧ Exa Z h a_1 "com/example/ratebook/ratebook/CellRange" ∧ Fld Z h a_1 "com/example/ratebook/ratebook/CellRange" "firstRow" "I" (.int p_2) ∧ Fld Z h a_1 "com/example/ratebook/ratebook/CellRange" "firstColumn" "I" (.int p_3) ∧ Fld Z h a_1 "com/example/ratebook/ratebook/CellRange" "lastRow" "I" (.int p_4) ∧ Fld Z h a_1 "com/example/ratebook/ratebook/CellRange" "lastColumn" "I" (.int p_5)
set_option maxRecDepth 65536 in
set_option maxHeartbeats 40000000 in
theorem own_rm5 (l : Launch) (Z : State) (a0 : Array Value) (hw : ∀ d ∈ tables_1, d.before a0 Z = true) (ws : List Jvm.Cond) (a_1 : Addr) (p_2 : Int32) (p_3 : Int32) (p_4 : Int32) (p_5 : Int32) (w_firstRow_a_1 : Int32) (w_firstColumn_a_1 : Int32) (w_lastRow_a_1 : Int32) (w_lastColumn_a_1 : Int32) (h0 : Heap) (n0 : Nat) (Z0 : n0 ≤ h0.size) (pr_E_a_1 : Exa Z h0 a_1 "com/example/ratebook/ratebook/CellRange") (pr_F_a_1_firstRow : Fld Z h0 a_1 "com/example/ratebook/ratebook/CellRange" "firstRow" "I" (.int w_firstRow_a_1)) (pr_F_a_1_firstColumn : Fld Z h0 a_1 "com/example/ratebook/ratebook/CellRange" "firstColumn" "I" (.int w_firstColumn_a_1)) (pr_F_a_1_lastRow : Fld Z h0 a_1 "com/example/ratebook/ratebook/CellRange" "lastRow" "I" (.int w_lastRow_a_1)) (pr_F_a_1_lastColumn : Fld Z h0 a_1 "com/example/ratebook/ratebook/CellRange" "lastColumn" "I" (.int w_lastColumn_a_1)) (gw_a_1 : n0 ≤ a_1) :
    MetFree l (⟨"com/example/ratebook/ratebook/CellRange", "<init>", "(IIII)V"⟩ : MethodName) (head1 (Jvm.Cond.code (⟨"com/example/ratebook/ratebook/CellRange", "<init>", "(IIII)V"⟩ : MethodName) prog_11_method_1_code 5 none :: ws) ({ frames := 2, cells := 0, slots := 0, locals := 24 } : Room)) (fun a U => a = #[(.ref a_1), (.int p_2), (.int p_3), (.int p_4), (.int p_5)] ∧ Z.Warmed39 U.vm ∧ U.heap = h0) (fun _ _ _ _ _ => True) (fun _ U o U' => ∃ v L, o = .returned v ∧ own_Q5 Z a_1 p_2 p_3 p_4 p_5 w_firstRow_a_1 w_firstColumn_a_1 w_lastRow_a_1 w_lastColumn_a_1 h0 n0 v U'.heap L ∧ FrameEnd U o U' L ({ frames := 2, cells := 0, slots := 0, locals := 24 } : Room).cells ({ frames := 2, cells := 0, slots := 0, locals := 24 } : Room).slots) := by
  refine MetFree.of_bodySF (plainFor_of_name own_pn2) hisR ?_
  intro p e s m args below meth c s₁ Bd hml0 hP hK
  obtain ⟨rfl, hZ, hh⟩ := hP
  have hx := Bd.exec
  have hby := Bd.bytes
  have hml : c.maxLocals = 5 := hml0
  have hown : s.vm.findClass "com/example/ratebook/ratebook/CellRange" = some m.cls := findClass_of_methodNamed Bd.named
  have hnm := (name_of_methodNamed Bd.named Bd.method).1
  have X0 : Stand p l e ({ frames := 2, cells := 0, slots := 0, locals := 24 } : Room) s m #[(.ref a_1), (.int p_2), (.int p_3), (.int p_4), (.int p_5)] below meth c s₁ [] 0 0 := Stand.of_body Bd
  have e0 : s₁.heap = h0 := by rw [← hh, Bd.state]; rfl
  have N0 := Fr.nil n0
  have z0 : n0 ≤ h0.size := Z0
  have z1 := own_lt pr_E_a_1.lt
  have z2 := own_lt pr_F_a_1_firstRow.lt
  have z3 := own_lt pr_F_a_1_firstColumn.lt
  have z4 := own_lt pr_F_a_1_lastRow.lt
  have z5 := own_lt pr_F_a_1_lastColumn.lt
  have K0 : Keep h0 h0 [a_1] := Keep.refl h0 _
  show own_Go p.tables e below (fun t o => t.status = .running ∧ Ended t below o ∧ ∃ v L, o = .returned v ∧ own_Q5 Z a_1 p_2 p_3 p_4 p_5 w_firstRow_a_1 w_firstColumn_a_1 w_lastRow_a_1 w_lastColumn_a_1 h0 n0 v t.heap L ∧ FrameEnd s o t L ({ frames := 2, cells := 0, slots := 0, locals := 24 } : Room).cells ({ frames := 2, cells := 0, slots := 0, locals := 24 } : Room).slots) s₁ (entryFrame m #[(.ref a_1), (.int p_2), (.int p_3), (.int p_4), (.int p_5)] 5)
  rw [own_ef_own_rm5 m a_1 p_2 p_3 p_4 p_5]
  show own_Go _ _ _ _ s₁ (mkF m 0 #[.val (.ref a_1), .val (.int p_2), .val (.int p_3), .val (.int p_4), .val (.int p_5)] [])
  refine own_go (fun _ k => XS.aloadN X0.here hx rfl (hb hby own_d5_0) rfl rfl k) ?_
  show own_Go _ _ _ _ s₁ (mkF m 1 #[.val (.ref a_1), .val (.int p_2), .val (.int p_3), .val (.int p_4), .val (.int p_5)] [(.ref a_1)])
  obtain ⟨_, _, ⟨T6, L6, k6, n6⟩, -, X6, ⟨Lc6, hQ6, l6, y6, z6⟩, st6⟩ := X0.specialBack hx (y := (⟨"java/lang/Record", "<init>", "()V"⟩ : MethodName)) rfl hown (mvT hZ (hw _ (List.mem_of_getElem? (i := 22) rfl))) (mvT hZ (hw _ (List.mem_of_getElem? (i := 23) rfl))) (mvT hZ (hw _ (List.mem_of_getElem? (i := 26) rfl))) (by decide) (backOf (W := 0) (own_rm6 l Z a0 hw [] a_1  h0 n0 (by omega) ) hZ (hw _ (List.mem_of_getElem? (i := 26) rfl)) (hw _ (List.mem_of_getElem? (i := 25) rfl)) (by decide) (by decide)) (g := (mkF m 1 #[.val (.ref a_1), .val (.int p_2), .val (.int p_3), .val (.int p_4), .val (.int p_5)] [(.ref a_1)])) rfl (by rw [hml]; rfl) (Steps.refl _) (a := a_1) (argsL := []) (rest := []) (lenOf own_pd0 rfl) rfl (by show 2 * 0 + _ ≤ _; exact Nat.le_of_eq rfl) (hb hby own_d5_1) (fun _ _ => ⟨rfl, e0, (by decide : 0 + 0 ≤ _), (by decide : 0 + 0 ≤ _)⟩)
  dsimp only [Pt.U, Pt.locs, Pt.cells, Pt.slots] at X6 l6 y6 z6 st6 hQ6
  have y6 : k6 = 0 := y6
  have z6 : n6 = 0 := z6
  obtain ⟨rfl, N6q, e6⟩ := hQ6
  have N6 : Fr n0 L6 := by rw [l6]; exact Fr.app N0 N6q
  refine own_go (fun _ k => st6.trans k) ?_
  show own_Go _ _ _ _ T6 (mkF m 4 #[.val (.ref a_1), .val (.int p_2), .val (.int p_3), .val (.int p_4), .val (.int p_5)] [])
  refine own_go (fun _ k => XS.aloadN X6.here hx rfl (hb hby own_d5_4) rfl rfl k) ?_
  show own_Go _ _ _ _ T6 (mkF m 5 #[.val (.ref a_1), .val (.int p_2), .val (.int p_3), .val (.int p_4), .val (.int p_5)] [(.ref a_1)])
  refine own_go (fun _ k => XS.iloadN X6.here hx rfl (hb hby own_d5_5) rfl k) ?_
  show own_Go _ _ _ _ T6 (mkF m 6 #[.val (.ref a_1), .val (.int p_2), .val (.int p_3), .val (.int p_4), .val (.int p_5)] [(.int p_2), (.ref a_1)])
  obtain ⟨T7, h7, X7, e7, W7, st7⟩ := putF X6 hx hZ hown (host := "") (Or.inl (hw _ (List.mem_of_getElem? (i := 30) rfl))) Via.refl e6 pr_F_a_1_firstRow pr_E_a_1 (Or.inr ⟨(hw _ (List.mem_of_getElem? (i := 31) rfl)), rfl, hnm⟩) (hw _ (List.mem_of_getElem? (i := 17) rfl)) (ty := .int) (by decide) rfl rfl (g := (mkF m 6 #[.val (.ref a_1), .val (.int p_2), .val (.int p_3), .val (.int p_4), .val (.int p_5)] [(.int p_2), (.ref a_1)])) rfl rfl (hb hby own_d5_6)
  have z8 := W7.size
  have K7 : Keep h0 h7 [a_1] := K0.wr W7 (Or.inl (List.mem_of_getElem? (i := 0) rfl))
  have N7 := Fr.snoc X7 N6 (by omega : n0 ≤ a_1)
  have Fw7 : Fld Z h7 a_1 "com/example/ratebook/ratebook/CellRange" "firstRow" "I" (.int p_2) := Fld.same W7 pr_F_a_1_firstRow
  refine own_go (fun _ k => st7 _ k) ?_
  show own_Go _ _ _ _ T7 (mkF m 9 #[.val (.ref a_1), .val (.int p_2), .val (.int p_3), .val (.int p_4), .val (.int p_5)] [])
  refine own_go (fun _ k => XS.aloadN X7.here hx rfl (hb hby own_d5_9) rfl rfl k) ?_
  show own_Go _ _ _ _ T7 (mkF m 10 #[.val (.ref a_1), .val (.int p_2), .val (.int p_3), .val (.int p_4), .val (.int p_5)] [(.ref a_1)])
  refine own_go (fun _ k => XS.iloadN X7.here hx rfl (hb hby own_d5_10) rfl k) ?_
  show own_Go _ _ _ _ T7 (mkF m 11 #[.val (.ref a_1), .val (.int p_2), .val (.int p_3), .val (.int p_4), .val (.int p_5)] [(.int p_3), (.ref a_1)])
  have f9 : Exa Z h7 a_1 "com/example/ratebook/ratebook/CellRange" := (pr_E_a_1.wr W7)
  have f10 : Fld Z h7 a_1 "com/example/ratebook/ratebook/CellRange" "firstColumn" "I" (.int w_firstColumn_a_1) := (pr_F_a_1_firstColumn.other W7 (Or.inr (slot_ne (Or.inr (hw _ (List.mem_of_getElem? (i := 33) rfl))) (Or.inr (hw _ (List.mem_of_getElem? (i := 31) rfl))) (by decide) (t := .int) (t' := .int) (by decide) (by decide))))
  obtain ⟨T11, h11, X11, e11, W11, st11⟩ := putF X7 hx hZ hown (host := "") (Or.inl (hw _ (List.mem_of_getElem? (i := 32) rfl))) Via.refl e7 f10 f9 (Or.inr ⟨(hw _ (List.mem_of_getElem? (i := 33) rfl)), rfl, hnm⟩) (hw _ (List.mem_of_getElem? (i := 17) rfl)) (ty := .int) (by decide) rfl rfl (g := (mkF m 11 #[.val (.ref a_1), .val (.int p_2), .val (.int p_3), .val (.int p_4), .val (.int p_5)] [(.int p_3), (.ref a_1)])) rfl rfl (hb hby own_d5_11)
  have z12 := W11.size
  have K11 : Keep h0 h11 [a_1] := K7.wr W11 (Or.inl (List.mem_of_getElem? (i := 0) rfl))
  have N11 := Fr.snoc X11 N7 (by omega : n0 ≤ a_1)
  have Fw11 : Fld Z h11 a_1 "com/example/ratebook/ratebook/CellRange" "firstColumn" "I" (.int p_3) := Fld.same W11 f10
  refine own_go (fun _ k => st11 _ k) ?_
  show own_Go _ _ _ _ T11 (mkF m 14 #[.val (.ref a_1), .val (.int p_2), .val (.int p_3), .val (.int p_4), .val (.int p_5)] [])
  refine own_go (fun _ k => XS.aloadN X11.here hx rfl (hb hby own_d5_14) rfl rfl k) ?_
  show own_Go _ _ _ _ T11 (mkF m 15 #[.val (.ref a_1), .val (.int p_2), .val (.int p_3), .val (.int p_4), .val (.int p_5)] [(.ref a_1)])
  refine own_go (fun _ k => XS.iloadN X11.here hx rfl (hb hby own_d5_15) rfl k) ?_
  show own_Go _ _ _ _ T11 (mkF m 16 #[.val (.ref a_1), .val (.int p_2), .val (.int p_3), .val (.int p_4), .val (.int p_5)] [(.int p_4), (.ref a_1)])
  have f13 : Exa Z h11 a_1 "com/example/ratebook/ratebook/CellRange" := (f9.wr W11)
  have f14 : Fld Z h11 a_1 "com/example/ratebook/ratebook/CellRange" "lastRow" "I" (.int w_lastRow_a_1) := ((pr_F_a_1_lastRow.other W7 (Or.inr (slot_ne (Or.inr (hw _ (List.mem_of_getElem? (i := 35) rfl))) (Or.inr (hw _ (List.mem_of_getElem? (i := 31) rfl))) (by decide) (t := .int) (t' := .int) (by decide) (by decide)))).other W11 (Or.inr (slot_ne (Or.inr (hw _ (List.mem_of_getElem? (i := 35) rfl))) (Or.inr (hw _ (List.mem_of_getElem? (i := 33) rfl))) (by decide) (t := .int) (t' := .int) (by decide) (by decide))))
  obtain ⟨T15, h15, X15, e15, W15, st15⟩ := putF X11 hx hZ hown (host := "") (Or.inl (hw _ (List.mem_of_getElem? (i := 34) rfl))) Via.refl e11 f14 f13 (Or.inr ⟨(hw _ (List.mem_of_getElem? (i := 35) rfl)), rfl, hnm⟩) (hw _ (List.mem_of_getElem? (i := 17) rfl)) (ty := .int) (by decide) rfl rfl (g := (mkF m 16 #[.val (.ref a_1), .val (.int p_2), .val (.int p_3), .val (.int p_4), .val (.int p_5)] [(.int p_4), (.ref a_1)])) rfl rfl (hb hby own_d5_16)
  have z16 := W15.size
  have K15 : Keep h0 h15 [a_1] := K11.wr W15 (Or.inl (List.mem_of_getElem? (i := 0) rfl))
  have N15 := Fr.snoc X15 N11 (by omega : n0 ≤ a_1)
  have Fw15 : Fld Z h15 a_1 "com/example/ratebook/ratebook/CellRange" "lastRow" "I" (.int p_4) := Fld.same W15 f14
  refine own_go (fun _ k => st15 _ k) ?_
  show own_Go _ _ _ _ T15 (mkF m 19 #[.val (.ref a_1), .val (.int p_2), .val (.int p_3), .val (.int p_4), .val (.int p_5)] [])
  refine own_go (fun _ k => XS.aloadN X15.here hx rfl (hb hby own_d5_19) rfl rfl k) ?_
  show own_Go _ _ _ _ T15 (mkF m 20 #[.val (.ref a_1), .val (.int p_2), .val (.int p_3), .val (.int p_4), .val (.int p_5)] [(.ref a_1)])
  refine own_go (fun _ k => XS.iload X15.here hx rfl (hb hby own_d5_20) rfl k) ?_
  show own_Go _ _ _ _ T15 (mkF m 22 #[.val (.ref a_1), .val (.int p_2), .val (.int p_3), .val (.int p_4), .val (.int p_5)] [(.int p_5), (.ref a_1)])
  have f17 : Exa Z h15 a_1 "com/example/ratebook/ratebook/CellRange" := (f13.wr W15)
  have f18 : Fld Z h15 a_1 "com/example/ratebook/ratebook/CellRange" "lastColumn" "I" (.int w_lastColumn_a_1) := (((pr_F_a_1_lastColumn.other W7 (Or.inr (slot_ne (Or.inr (hw _ (List.mem_of_getElem? (i := 37) rfl))) (Or.inr (hw _ (List.mem_of_getElem? (i := 31) rfl))) (by decide) (t := .int) (t' := .int) (by decide) (by decide)))).other W11 (Or.inr (slot_ne (Or.inr (hw _ (List.mem_of_getElem? (i := 37) rfl))) (Or.inr (hw _ (List.mem_of_getElem? (i := 33) rfl))) (by decide) (t := .int) (t' := .int) (by decide) (by decide)))).other W15 (Or.inr (slot_ne (Or.inr (hw _ (List.mem_of_getElem? (i := 37) rfl))) (Or.inr (hw _ (List.mem_of_getElem? (i := 35) rfl))) (by decide) (t := .int) (t' := .int) (by decide) (by decide))))
  obtain ⟨T19, h19, X19, e19, W19, st19⟩ := putF X15 hx hZ hown (host := "") (Or.inl (hw _ (List.mem_of_getElem? (i := 36) rfl))) Via.refl e15 f18 f17 (Or.inr ⟨(hw _ (List.mem_of_getElem? (i := 37) rfl)), rfl, hnm⟩) (hw _ (List.mem_of_getElem? (i := 17) rfl)) (ty := .int) (by decide) rfl rfl (g := (mkF m 22 #[.val (.ref a_1), .val (.int p_2), .val (.int p_3), .val (.int p_4), .val (.int p_5)] [(.int p_5), (.ref a_1)])) rfl rfl (hb hby own_d5_22)
  have z20 := W19.size
  have K19 : Keep h0 h19 [a_1] := K15.wr W19 (Or.inl (List.mem_of_getElem? (i := 0) rfl))
  have N19 := Fr.snoc X19 N15 (by omega : n0 ≤ a_1)
  have Fw19 : Fld Z h19 a_1 "com/example/ratebook/ratebook/CellRange" "lastColumn" "I" (.int p_5) := Fld.same W19 f18
  refine own_go (fun _ k => st19 _ k) ?_
  show own_Go _ _ _ _ T19 (mkF m 25 #[.val (.ref a_1), .val (.int p_2), .val (.int p_3), .val (.int p_4), .val (.int p_5)] [])
  obtain ⟨fs, hr, hrun, hended, hW, hsame⟩ := X19.leave (v := none) (fun _ => rfl)
  refine ⟨_, _, X19.returnOut hx Bd.returns (hb hby own_d5_25) hr, hrun, hended, _, _, rfl, ?_, ⟨_, rfl⟩, hW, hsame.mono (by rw [y6]; decide) (by rw [z6]; decide)⟩
  show own_Q5 Z a_1 p_2 p_3 p_4 p_5 w_firstRow_a_1 w_firstColumn_a_1 w_lastRow_a_1 w_lastColumn_a_1 h0 n0 _ T19.heap _
  rw [e19]
  have f22 : Exa Z h19 a_1 "com/example/ratebook/ratebook/CellRange" := (f17.wr W19)
  have f23 : Fld Z h19 a_1 "com/example/ratebook/ratebook/CellRange" "firstRow" "I" (.int p_2) := (((Fw7.other W11 (Or.inr (slot_ne (Or.inr (hw _ (List.mem_of_getElem? (i := 31) rfl))) (Or.inr (hw _ (List.mem_of_getElem? (i := 33) rfl))) (by decide) (t := .int) (t' := .int) (by decide) (by decide)))).other W15 (Or.inr (slot_ne (Or.inr (hw _ (List.mem_of_getElem? (i := 31) rfl))) (Or.inr (hw _ (List.mem_of_getElem? (i := 35) rfl))) (by decide) (t := .int) (t' := .int) (by decide) (by decide)))).other W19 (Or.inr (slot_ne (Or.inr (hw _ (List.mem_of_getElem? (i := 31) rfl))) (Or.inr (hw _ (List.mem_of_getElem? (i := 37) rfl))) (by decide) (t := .int) (t' := .int) (by decide) (by decide))))
  have f24 : Fld Z h19 a_1 "com/example/ratebook/ratebook/CellRange" "firstColumn" "I" (.int p_3) := ((Fw11.other W15 (Or.inr (slot_ne (Or.inr (hw _ (List.mem_of_getElem? (i := 33) rfl))) (Or.inr (hw _ (List.mem_of_getElem? (i := 35) rfl))) (by decide) (t := .int) (t' := .int) (by decide) (by decide)))).other W19 (Or.inr (slot_ne (Or.inr (hw _ (List.mem_of_getElem? (i := 33) rfl))) (Or.inr (hw _ (List.mem_of_getElem? (i := 37) rfl))) (by decide) (t := .int) (t' := .int) (by decide) (by decide))))
  have f25 : Fld Z h19 a_1 "com/example/ratebook/ratebook/CellRange" "lastRow" "I" (.int p_4) := (Fw15.other W19 (Or.inr (slot_ne (Or.inr (hw _ (List.mem_of_getElem? (i := 35) rfl))) (Or.inr (hw _ (List.mem_of_getElem? (i := 37) rfl))) (by decide) (t := .int) (t' := .int) (by decide) (by decide))))
  exact ⟨rfl, N19, K19, f22, f23, f24, f25, Fw19⟩
theorem own_d8_0 : decode prog_11_method_7_code 0 = .ok (.aload_n 0, 1) := by decide +kernel
theorem own_d8_1 : decode prog_11_method_7_code 1 = .ok (.getfield 7, 3) := by decide +kernel
theorem own_d8_4 : decode prog_11_method_7_code 4 = .ok (.aload_n 1, 1) := by decide +kernel
theorem own_d8_5 : decode prog_11_method_7_code 5 = .ok (.getfield 16, 3) := by decide +kernel
theorem own_d8_8 : decode prog_11_method_7_code 8 = .ok (.if_icmp .gt 40, 3) := by decide +kernel
theorem own_d8_11 : decode prog_11_method_7_code 11 = .ok (.aload_n 1, 1) := by decide +kernel
theorem own_d8_12 : decode prog_11_method_7_code 12 = .ok (.getfield 7, 3) := by decide +kernel
theorem own_d8_15 : decode prog_11_method_7_code 15 = .ok (.aload_n 0, 1) := by decide +kernel
theorem own_d8_16 : decode prog_11_method_7_code 16 = .ok (.getfield 16, 3) := by decide +kernel
theorem own_d8_19 : decode prog_11_method_7_code 19 = .ok (.if_icmp .gt 29, 3) := by decide +kernel
theorem own_d8_22 : decode prog_11_method_7_code 22 = .ok (.aload_n 0, 1) := by decide +kernel
theorem own_d8_23 : decode prog_11_method_7_code 23 = .ok (.getfield 13, 3) := by decide +kernel
theorem own_d8_26 : decode prog_11_method_7_code 26 = .ok (.aload_n 1, 1) := by decide +kernel
theorem own_d8_27 : decode prog_11_method_7_code 27 = .ok (.getfield 19, 3) := by decide +kernel
theorem own_d8_30 : decode prog_11_method_7_code 30 = .ok (.if_icmp .gt 18, 3) := by decide +kernel
theorem own_d8_33 : decode prog_11_method_7_code 33 = .ok (.aload_n 1, 1) := by decide +kernel
theorem own_d8_34 : decode prog_11_method_7_code 34 = .ok (.getfield 13, 3) := by decide +kernel
theorem own_d8_37 : decode prog_11_method_7_code 37 = .ok (.aload_n 0, 1) := by decide +kernel
theorem own_d8_38 : decode prog_11_method_7_code 38 = .ok (.getfield 19, 3) := by decide +kernel
theorem own_d8_41 : decode prog_11_method_7_code 41 = .ok (.if_icmp .gt 7, 3) := by decide +kernel
theorem own_d8_44 : decode prog_11_method_7_code 44 = .ok (.iconst 1, 1) := by decide +kernel
theorem own_d8_45 : decode prog_11_method_7_code 45 = .ok (.goto 4, 3) := by decide +kernel
theorem own_d8_48 : decode prog_11_method_7_code 48 = .ok (.iconst 0, 1) := by decide +kernel
theorem own_d8_49 : decode prog_11_method_7_code 49 = .ok (.ireturn, 1) := by decide +kernel
theorem own_ef_own_rm8 (m : MethodId) (x0 : Addr) (x1 : Addr) : entryFrame m #[(.ref x0), (.ref x1)] 2 = mkF m 0 #[.val (.ref x0), .val (.ref x1)] [] := by first | (simp [entryFrame, mkF, argsToLocals, Value.category]; done) | rfl
def own_rm8_ret (w_firstRow_a_1 : Int32) (w_lastRow_a_2 : Int32) (w_firstRow_a_2 : Int32) (w_lastRow_a_1 : Int32) (w_firstColumn_a_1 : Int32) (w_lastColumn_a_2 : Int32) (w_firstColumn_a_2 : Int32) (w_lastColumn_a_1 : Int32) : Int32 := if w_lastRow_a_2 < w_firstRow_a_1 then (0 : Int32) else if w_lastRow_a_1 < w_firstRow_a_2 then (0 : Int32) else if w_lastColumn_a_2 < w_firstColumn_a_1 then (0 : Int32) else if w_lastColumn_a_1 < w_firstColumn_a_2 then (0 : Int32) else (1 : Int32)
def own_Q8 (Z : State) (a_1 : Addr) (a_2 : Addr) (w_firstRow_a_1 : Int32) (w_lastRow_a_2 : Int32) (w_firstRow_a_2 : Int32) (w_lastRow_a_1 : Int32) (w_firstColumn_a_1 : Int32) (w_lastColumn_a_2 : Int32) (w_firstColumn_a_2 : Int32) (w_lastColumn_a_1 : Int32) (h0 : Heap) (n0 : Nat) (v : Option Value) (h : Heap) (L : List Loc) : Prop := ∃ (r_ : Int32), v = some (.int r_) ∧ Fr n0 L ∧ r_ = (own_rm8_ret w_firstRow_a_1 w_lastRow_a_2 w_firstRow_a_2 w_lastRow_a_1 w_firstColumn_a_1 w_lastColumn_a_2 w_firstColumn_a_2 w_lastColumn_a_1) ∧ h = h0
set_option maxRecDepth 65536 in
set_option maxHeartbeats 40000000 in
theorem own_rm8 (l : Launch) (Z : State) (a0 : Array Value) (hw : ∀ d ∈ tables_1, d.before a0 Z = true) (ws : List Jvm.Cond) (a_1 : Addr) (a_2 : Addr) (w_firstRow_a_1 : Int32) (w_lastRow_a_2 : Int32) (w_firstRow_a_2 : Int32) (w_lastRow_a_1 : Int32) (w_firstColumn_a_1 : Int32) (w_lastColumn_a_2 : Int32) (w_firstColumn_a_2 : Int32) (w_lastColumn_a_1 : Int32) (h0 : Heap) (n0 : Nat) (Z0 : n0 ≤ h0.size) (pr_F_a_1_firstRow : Fld Z h0 a_1 "com/example/ratebook/ratebook/CellRange" "firstRow" "I" (.int w_firstRow_a_1)) (pr_F_a_2_lastRow : Fld Z h0 a_2 "com/example/ratebook/ratebook/CellRange" "lastRow" "I" (.int w_lastRow_a_2)) (pr_F_a_2_firstRow : Fld Z h0 a_2 "com/example/ratebook/ratebook/CellRange" "firstRow" "I" (.int w_firstRow_a_2)) (pr_F_a_1_lastRow : Fld Z h0 a_1 "com/example/ratebook/ratebook/CellRange" "lastRow" "I" (.int w_lastRow_a_1)) (pr_F_a_1_firstColumn : Fld Z h0 a_1 "com/example/ratebook/ratebook/CellRange" "firstColumn" "I" (.int w_firstColumn_a_1)) (pr_F_a_2_lastColumn : Fld Z h0 a_2 "com/example/ratebook/ratebook/CellRange" "lastColumn" "I" (.int w_lastColumn_a_2)) (pr_F_a_2_firstColumn : Fld Z h0 a_2 "com/example/ratebook/ratebook/CellRange" "firstColumn" "I" (.int w_firstColumn_a_2)) (pr_F_a_1_lastColumn : Fld Z h0 a_1 "com/example/ratebook/ratebook/CellRange" "lastColumn" "I" (.int w_lastColumn_a_1)) :
    MetFree l (⟨"com/example/ratebook/ratebook/CellRange", "overlaps", "(Lcom/example/ratebook/ratebook/CellRange;)Z"⟩ : MethodName) (head1 (Jvm.Cond.code (⟨"com/example/ratebook/ratebook/CellRange", "overlaps", "(Lcom/example/ratebook/ratebook/CellRange;)Z"⟩ : MethodName) prog_11_method_7_code 2 (some .boolean) :: ws) ({ frames := 0, cells := 0, slots := 0, locals := 0 } : Room)) (fun a U => a = #[(.ref a_1), (.ref a_2)] ∧ Z.Warmed39 U.vm ∧ U.heap = h0) (fun _ _ _ _ _ => True) (fun _ U o U' => ∃ v L, o = .returned v ∧ own_Q8 Z a_1 a_2 w_firstRow_a_1 w_lastRow_a_2 w_firstRow_a_2 w_lastRow_a_1 w_firstColumn_a_1 w_lastColumn_a_2 w_firstColumn_a_2 w_lastColumn_a_1 h0 n0 v U'.heap L ∧ FrameEnd U o U' L ({ frames := 0, cells := 0, slots := 0, locals := 0 } : Room).cells ({ frames := 0, cells := 0, slots := 0, locals := 0 } : Room).slots) := by
  refine MetFree.of_bodySF (plainFor_of_name own_pn2) hisR ?_
  intro p e s m args below meth c s₁ Bd hml0 hP hK
  obtain ⟨rfl, hZ, hh⟩ := hP
  have hx := Bd.exec
  have hby := Bd.bytes
  have hml : c.maxLocals = 2 := hml0
  have hown : s.vm.findClass "com/example/ratebook/ratebook/CellRange" = some m.cls := findClass_of_methodNamed Bd.named
  have hnm := (name_of_methodNamed Bd.named Bd.method).1
  have X0 : Stand p l e ({ frames := 0, cells := 0, slots := 0, locals := 0 } : Room) s m #[(.ref a_1), (.ref a_2)] below meth c s₁ [] 0 0 := Stand.of_body Bd
  have e0 : s₁.heap = h0 := by rw [← hh, Bd.state]; rfl
  have N0 := Fr.nil n0
  have z0 : n0 ≤ h0.size := Z0
  have z1 := own_lt pr_F_a_1_firstRow.lt
  have z2 := own_lt pr_F_a_2_lastRow.lt
  have z3 := own_lt pr_F_a_2_firstRow.lt
  have z4 := own_lt pr_F_a_1_lastRow.lt
  have z5 := own_lt pr_F_a_1_firstColumn.lt
  have z6 := own_lt pr_F_a_2_lastColumn.lt
  have z7 := own_lt pr_F_a_2_firstColumn.lt
  have z8 := own_lt pr_F_a_1_lastColumn.lt
  show own_Go p.tables e below (fun t o => t.status = .running ∧ Ended t below o ∧ ∃ v L, o = .returned v ∧ own_Q8 Z a_1 a_2 w_firstRow_a_1 w_lastRow_a_2 w_firstRow_a_2 w_lastRow_a_1 w_firstColumn_a_1 w_lastColumn_a_2 w_firstColumn_a_2 w_lastColumn_a_1 h0 n0 v t.heap L ∧ FrameEnd s o t L ({ frames := 0, cells := 0, slots := 0, locals := 0 } : Room).cells ({ frames := 0, cells := 0, slots := 0, locals := 0 } : Room).slots) s₁ (entryFrame m #[(.ref a_1), (.ref a_2)] 2)
  rw [own_ef_own_rm8 m a_1 a_2]
  show own_Go _ _ _ _ s₁ (mkF m 0 #[.val (.ref a_1), .val (.ref a_2)] [])
  refine own_go (fun _ k => XS.aloadN X0.here hx rfl (hb hby own_d8_0) rfl rfl k) ?_
  show own_Go _ _ _ _ s₁ (mkF m 1 #[.val (.ref a_1), .val (.ref a_2)] [(.ref a_1)])
  obtain ⟨T9, X9, e9, st9⟩ := getF X0 hx hZ hown (host := "") (Or.inl (hw _ (List.mem_of_getElem? (i := 30) rfl))) Via.refl e0 pr_F_a_1_firstRow (g := (mkF m 1 #[.val (.ref a_1), .val (.ref a_2)] [(.ref a_1)])) rfl rfl (hb hby own_d8_1)
  refine own_go (fun _ k => st9 _ k) ?_
  show own_Go _ _ _ _ T9 (mkF m 4 #[.val (.ref a_1), .val (.ref a_2)] [(.int w_firstRow_a_1)])
  refine own_go (fun _ k => XS.aloadN X9.here hx rfl (hb hby own_d8_4) rfl rfl k) ?_
  show own_Go _ _ _ _ T9 (mkF m 5 #[.val (.ref a_1), .val (.ref a_2)] [(.ref a_2), (.int w_firstRow_a_1)])
  obtain ⟨T10, X10, e10, st10⟩ := getF X9 hx hZ hown (host := "") (Or.inl (hw _ (List.mem_of_getElem? (i := 34) rfl))) Via.refl e9 pr_F_a_2_lastRow (g := (mkF m 5 #[.val (.ref a_1), .val (.ref a_2)] [(.ref a_2), (.int w_firstRow_a_1)])) rfl rfl (hb hby own_d8_5)
  refine own_go (fun _ k => st10 _ k) ?_
  show own_Go _ _ _ _ T10 (mkF m 8 #[.val (.ref a_1), .val (.ref a_2)] [(.int w_lastRow_a_2), (.int w_firstRow_a_1)])
  by_cases hc11 : w_lastRow_a_2 < w_firstRow_a_1
  · refine own_go (fun _ k => XS.icmpYes X10.here hx rfl (pc0 := 8) (pc' := 48) rfl (hb hby own_d8_8) rfl (Jvm.Free.XT.ii_gt_t hc11) (by decide) (by decide) k) ?_
    show own_Go _ _ _ _ T10 (mkF m 48 #[.val (.ref a_1), .val (.ref a_2)] [])
    refine own_go (fun _ k => XS.iconst X10.here hx rfl (hb hby own_d8_48) k) ?_
    show own_Go _ _ _ _ T10 (mkF m 49 #[.val (.ref a_1), .val (.ref a_2)] [(.int (0 : Int32))])
    obtain ⟨fs, hr, hrun, hended, hW, hsame⟩ := X10.leave (v := some (.int (0 : Int32))) (fun h => by rw [Bd.returns] at h; cases h)
    refine ⟨_, _, retOut X10 hx Bd.returns rfl (Or.inl ⟨rfl, Or.inr (Or.inl rfl), _, rfl⟩) (hb hby own_d8_49) hr, hrun, hended, _, _, rfl, ?_, ⟨_, rfl⟩, hW, hsame.mono (by decide) (by decide)⟩
    show own_Q8 Z a_1 a_2 w_firstRow_a_1 w_lastRow_a_2 w_firstRow_a_2 w_lastRow_a_1 w_firstColumn_a_1 w_lastColumn_a_2 w_firstColumn_a_2 w_lastColumn_a_1 h0 n0 _ T10.heap _
    rw [e10]
    exact ⟨_, rfl, N0, (by first | rfl | simp only [own_rm8_ret, if_pos hc11]), rfl⟩
  · refine own_go (fun _ k => XS.icmpNo X10.here hx rfl (hb hby own_d8_8) rfl (Jvm.Free.XT.ii_gt_f hc11) k) ?_
    show own_Go _ _ _ _ T10 (mkF m 11 #[.val (.ref a_1), .val (.ref a_2)] [])
    refine own_go (fun _ k => XS.aloadN X10.here hx rfl (hb hby own_d8_11) rfl rfl k) ?_
    show own_Go _ _ _ _ T10 (mkF m 12 #[.val (.ref a_1), .val (.ref a_2)] [(.ref a_2)])
    obtain ⟨T13, X13, e13, st13⟩ := getF X10 hx hZ hown (host := "") (Or.inl (hw _ (List.mem_of_getElem? (i := 30) rfl))) Via.refl e10 pr_F_a_2_firstRow (g := (mkF m 12 #[.val (.ref a_1), .val (.ref a_2)] [(.ref a_2)])) rfl rfl (hb hby own_d8_12)
    refine own_go (fun _ k => st13 _ k) ?_
    show own_Go _ _ _ _ T13 (mkF m 15 #[.val (.ref a_1), .val (.ref a_2)] [(.int w_firstRow_a_2)])
    refine own_go (fun _ k => XS.aloadN X13.here hx rfl (hb hby own_d8_15) rfl rfl k) ?_
    show own_Go _ _ _ _ T13 (mkF m 16 #[.val (.ref a_1), .val (.ref a_2)] [(.ref a_1), (.int w_firstRow_a_2)])
    obtain ⟨T14, X14, e14, st14⟩ := getF X13 hx hZ hown (host := "") (Or.inl (hw _ (List.mem_of_getElem? (i := 34) rfl))) Via.refl e13 pr_F_a_1_lastRow (g := (mkF m 16 #[.val (.ref a_1), .val (.ref a_2)] [(.ref a_1), (.int w_firstRow_a_2)])) rfl rfl (hb hby own_d8_16)
    refine own_go (fun _ k => st14 _ k) ?_
    show own_Go _ _ _ _ T14 (mkF m 19 #[.val (.ref a_1), .val (.ref a_2)] [(.int w_lastRow_a_1), (.int w_firstRow_a_2)])
    by_cases hc15 : w_lastRow_a_1 < w_firstRow_a_2
    · refine own_go (fun _ k => XS.icmpYes X14.here hx rfl (pc0 := 19) (pc' := 48) rfl (hb hby own_d8_19) rfl (Jvm.Free.XT.ii_gt_t hc15) (by decide) (by decide) k) ?_
      show own_Go _ _ _ _ T14 (mkF m 48 #[.val (.ref a_1), .val (.ref a_2)] [])
      refine own_go (fun _ k => XS.iconst X14.here hx rfl (hb hby own_d8_48) k) ?_
      show own_Go _ _ _ _ T14 (mkF m 49 #[.val (.ref a_1), .val (.ref a_2)] [(.int (0 : Int32))])
      obtain ⟨fs, hr, hrun, hended, hW, hsame⟩ := X14.leave (v := some (.int (0 : Int32))) (fun h => by rw [Bd.returns] at h; cases h)
      refine ⟨_, _, retOut X14 hx Bd.returns rfl (Or.inl ⟨rfl, Or.inr (Or.inl rfl), _, rfl⟩) (hb hby own_d8_49) hr, hrun, hended, _, _, rfl, ?_, ⟨_, rfl⟩, hW, hsame.mono (by decide) (by decide)⟩
      show own_Q8 Z a_1 a_2 w_firstRow_a_1 w_lastRow_a_2 w_firstRow_a_2 w_lastRow_a_1 w_firstColumn_a_1 w_lastColumn_a_2 w_firstColumn_a_2 w_lastColumn_a_1 h0 n0 _ T14.heap _
      rw [e14]
      exact ⟨_, rfl, N0, (by first | rfl | simp only [own_rm8_ret, if_neg hc11, if_pos hc15]), rfl⟩
    · refine own_go (fun _ k => XS.icmpNo X14.here hx rfl (hb hby own_d8_19) rfl (Jvm.Free.XT.ii_gt_f hc15) k) ?_
      show own_Go _ _ _ _ T14 (mkF m 22 #[.val (.ref a_1), .val (.ref a_2)] [])
      refine own_go (fun _ k => XS.aloadN X14.here hx rfl (hb hby own_d8_22) rfl rfl k) ?_
      show own_Go _ _ _ _ T14 (mkF m 23 #[.val (.ref a_1), .val (.ref a_2)] [(.ref a_1)])
      obtain ⟨T17, X17, e17, st17⟩ := getF X14 hx hZ hown (host := "") (Or.inl (hw _ (List.mem_of_getElem? (i := 32) rfl))) Via.refl e14 pr_F_a_1_firstColumn (g := (mkF m 23 #[.val (.ref a_1), .val (.ref a_2)] [(.ref a_1)])) rfl rfl (hb hby own_d8_23)
      refine own_go (fun _ k => st17 _ k) ?_
      show own_Go _ _ _ _ T17 (mkF m 26 #[.val (.ref a_1), .val (.ref a_2)] [(.int w_firstColumn_a_1)])
      refine own_go (fun _ k => XS.aloadN X17.here hx rfl (hb hby own_d8_26) rfl rfl k) ?_
      show own_Go _ _ _ _ T17 (mkF m 27 #[.val (.ref a_1), .val (.ref a_2)] [(.ref a_2), (.int w_firstColumn_a_1)])
      obtain ⟨T18, X18, e18, st18⟩ := getF X17 hx hZ hown (host := "") (Or.inl (hw _ (List.mem_of_getElem? (i := 36) rfl))) Via.refl e17 pr_F_a_2_lastColumn (g := (mkF m 27 #[.val (.ref a_1), .val (.ref a_2)] [(.ref a_2), (.int w_firstColumn_a_1)])) rfl rfl (hb hby own_d8_27)
      refine own_go (fun _ k => st18 _ k) ?_
      show own_Go _ _ _ _ T18 (mkF m 30 #[.val (.ref a_1), .val (.ref a_2)] [(.int w_lastColumn_a_2), (.int w_firstColumn_a_1)])
      by_cases hc19 : w_lastColumn_a_2 < w_firstColumn_a_1
      · refine own_go (fun _ k => XS.icmpYes X18.here hx rfl (pc0 := 30) (pc' := 48) rfl (hb hby own_d8_30) rfl (Jvm.Free.XT.ii_gt_t hc19) (by decide) (by decide) k) ?_
        show own_Go _ _ _ _ T18 (mkF m 48 #[.val (.ref a_1), .val (.ref a_2)] [])
        refine own_go (fun _ k => XS.iconst X18.here hx rfl (hb hby own_d8_48) k) ?_
        show own_Go _ _ _ _ T18 (mkF m 49 #[.val (.ref a_1), .val (.ref a_2)] [(.int (0 : Int32))])
        obtain ⟨fs, hr, hrun, hended, hW, hsame⟩ := X18.leave (v := some (.int (0 : Int32))) (fun h => by rw [Bd.returns] at h; cases h)
        refine ⟨_, _, retOut X18 hx Bd.returns rfl (Or.inl ⟨rfl, Or.inr (Or.inl rfl), _, rfl⟩) (hb hby own_d8_49) hr, hrun, hended, _, _, rfl, ?_, ⟨_, rfl⟩, hW, hsame.mono (by decide) (by decide)⟩
        show own_Q8 Z a_1 a_2 w_firstRow_a_1 w_lastRow_a_2 w_firstRow_a_2 w_lastRow_a_1 w_firstColumn_a_1 w_lastColumn_a_2 w_firstColumn_a_2 w_lastColumn_a_1 h0 n0 _ T18.heap _
        rw [e18]
        exact ⟨_, rfl, N0, (by first | rfl | simp only [own_rm8_ret, if_neg hc11, if_neg hc15, if_pos hc19]), rfl⟩
      · refine own_go (fun _ k => XS.icmpNo X18.here hx rfl (hb hby own_d8_30) rfl (Jvm.Free.XT.ii_gt_f hc19) k) ?_
        show own_Go _ _ _ _ T18 (mkF m 33 #[.val (.ref a_1), .val (.ref a_2)] [])
        refine own_go (fun _ k => XS.aloadN X18.here hx rfl (hb hby own_d8_33) rfl rfl k) ?_
        show own_Go _ _ _ _ T18 (mkF m 34 #[.val (.ref a_1), .val (.ref a_2)] [(.ref a_2)])
        obtain ⟨T21, X21, e21, st21⟩ := getF X18 hx hZ hown (host := "") (Or.inl (hw _ (List.mem_of_getElem? (i := 32) rfl))) Via.refl e18 pr_F_a_2_firstColumn (g := (mkF m 34 #[.val (.ref a_1), .val (.ref a_2)] [(.ref a_2)])) rfl rfl (hb hby own_d8_34)
        refine own_go (fun _ k => st21 _ k) ?_
        show own_Go _ _ _ _ T21 (mkF m 37 #[.val (.ref a_1), .val (.ref a_2)] [(.int w_firstColumn_a_2)])
        refine own_go (fun _ k => XS.aloadN X21.here hx rfl (hb hby own_d8_37) rfl rfl k) ?_
        show own_Go _ _ _ _ T21 (mkF m 38 #[.val (.ref a_1), .val (.ref a_2)] [(.ref a_1), (.int w_firstColumn_a_2)])
        obtain ⟨T22, X22, e22, st22⟩ := getF X21 hx hZ hown (host := "") (Or.inl (hw _ (List.mem_of_getElem? (i := 36) rfl))) Via.refl e21 pr_F_a_1_lastColumn (g := (mkF m 38 #[.val (.ref a_1), .val (.ref a_2)] [(.ref a_1), (.int w_firstColumn_a_2)])) rfl rfl (hb hby own_d8_38)
        refine own_go (fun _ k => st22 _ k) ?_
        show own_Go _ _ _ _ T22 (mkF m 41 #[.val (.ref a_1), .val (.ref a_2)] [(.int w_lastColumn_a_1), (.int w_firstColumn_a_2)])
        by_cases hc23 : w_lastColumn_a_1 < w_firstColumn_a_2
        · refine own_go (fun _ k => XS.icmpYes X22.here hx rfl (pc0 := 41) (pc' := 48) rfl (hb hby own_d8_41) rfl (Jvm.Free.XT.ii_gt_t hc23) (by decide) (by decide) k) ?_
          show own_Go _ _ _ _ T22 (mkF m 48 #[.val (.ref a_1), .val (.ref a_2)] [])
          refine own_go (fun _ k => XS.iconst X22.here hx rfl (hb hby own_d8_48) k) ?_
          show own_Go _ _ _ _ T22 (mkF m 49 #[.val (.ref a_1), .val (.ref a_2)] [(.int (0 : Int32))])
          obtain ⟨fs, hr, hrun, hended, hW, hsame⟩ := X22.leave (v := some (.int (0 : Int32))) (fun h => by rw [Bd.returns] at h; cases h)
          refine ⟨_, _, retOut X22 hx Bd.returns rfl (Or.inl ⟨rfl, Or.inr (Or.inl rfl), _, rfl⟩) (hb hby own_d8_49) hr, hrun, hended, _, _, rfl, ?_, ⟨_, rfl⟩, hW, hsame.mono (by decide) (by decide)⟩
          show own_Q8 Z a_1 a_2 w_firstRow_a_1 w_lastRow_a_2 w_firstRow_a_2 w_lastRow_a_1 w_firstColumn_a_1 w_lastColumn_a_2 w_firstColumn_a_2 w_lastColumn_a_1 h0 n0 _ T22.heap _
          rw [e22]
          exact ⟨_, rfl, N0, (by first | rfl | simp only [own_rm8_ret, if_neg hc11, if_neg hc15, if_neg hc19, if_pos hc23]), rfl⟩
        · refine own_go (fun _ k => XS.icmpNo X22.here hx rfl (hb hby own_d8_41) rfl (Jvm.Free.XT.ii_gt_f hc23) k) ?_
          show own_Go _ _ _ _ T22 (mkF m 44 #[.val (.ref a_1), .val (.ref a_2)] [])
          refine own_go (fun _ k => XS.iconst X22.here hx rfl (hb hby own_d8_44) k) ?_
          show own_Go _ _ _ _ T22 (mkF m 45 #[.val (.ref a_1), .val (.ref a_2)] [(.int (1 : Int32))])
          refine own_go (fun _ k => XS.goto X22.here hx rfl (pc0 := 45) (pc' := 49) rfl (hb hby own_d8_45) (by decide) (by decide) k) ?_
          show own_Go _ _ _ _ T22 (mkF m 49 #[.val (.ref a_1), .val (.ref a_2)] [(.int (1 : Int32))])
          obtain ⟨fs, hr, hrun, hended, hW, hsame⟩ := X22.leave (v := some (.int (1 : Int32))) (fun h => by rw [Bd.returns] at h; cases h)
          refine ⟨_, _, retOut X22 hx Bd.returns rfl (Or.inl ⟨rfl, Or.inr (Or.inl rfl), _, rfl⟩) (hb hby own_d8_49) hr, hrun, hended, _, _, rfl, ?_, ⟨_, rfl⟩, hW, hsame.mono (by decide) (by decide)⟩
          show own_Q8 Z a_1 a_2 w_firstRow_a_1 w_lastRow_a_2 w_firstRow_a_2 w_lastRow_a_1 w_firstColumn_a_1 w_lastColumn_a_2 w_firstColumn_a_2 w_lastColumn_a_1 h0 n0 _ T22.heap _
          rw [e22]
          exact ⟨_, rfl, N0, (by first | rfl | simp only [own_rm8_ret, if_neg hc11, if_neg hc15, if_neg hc19, if_neg hc23]), rfl⟩
theorem own_ef_own_rm0 (m : MethodId) (x0 : Int64) (x1 : Int64) (x2 : Int64) (x3 : Int64) : entryFrame m #[(.long x0), (.long x1), (.long x2), (.long x3)] maxLocals = mkF m 0 #[.val (.long x0), .second, .val (.long x1), .second, .val (.long x2), .second, .val (.long x3), .second, .unset, .unset, .unset, .unset, .unset, .unset, .unset, .unset, .unset, .unset, .unset, .unset, .unset, .unset, .unset, .unset, .unset, .unset, .unset, .unset, .unset] [] := by first | (simp [entryFrame, mkF, argsToLocals, Value.category, maxLocals]; done) | rfl
set_option maxRecDepth 65536 in
set_option maxHeartbeats 4000000 in
theorem own_t0_0 (q_1 : Int64) (q_2 : Int64) (q_3 : Int64) (q_4 : Int64) (r2 : Int32) (r4 : Int32) (r6 : Int32) (r8 : Int32) (r10 : Int32) (r12 : Int32) (r14 : Int32) (r16 : Int32) (r18 : Int32) (r20 : Int32) (r22 : Int32) (r24 : Int32) (r26 : Int32) (r28 : Int32) (r30 : Int32) (r32 : Int32) (r62 : Int32) (r64 : Int32) (r67 : Int32) (r69 : Int32) (r78 : Int32) (hr_r2 : r2 = ((((q_1.toInt32) &&& (2147483647 : Int32)) % (1048576 : Int32)) + (1 : Int32))) (hr_r4 : r4 = ((((((q_1.toUInt64 >>> ((32 : Int32) &&& 0x3f).toInt64.toUInt64).toInt64).toInt32) &&& (2147483647 : Int32)) % (1048576 : Int32)) + (1 : Int32))) (hr_r6 : r6 = ((((q_2.toInt32) &&& (2147483647 : Int32)) % (16384 : Int32)) + (1 : Int32))) (hr_r8 : r8 = ((((((q_2.toUInt64 >>> ((32 : Int32) &&& 0x3f).toInt64.toUInt64).toInt64).toInt32) &&& (2147483647 : Int32)) % (16384 : Int32)) + (1 : Int32))) (hr_r10 : r10 = ((((q_3.toInt32) &&& (2147483647 : Int32)) % (1048576 : Int32)) + (1 : Int32))) (hr_r12 : r12 = ((((((q_3.toUInt64 >>> ((32 : Int32) &&& 0x3f).toInt64.toUInt64).toInt64).toInt32) &&& (2147483647 : Int32)) % (1048576 : Int32)) + (1 : Int32))) (hr_r14 : r14 = ((((q_4.toInt32) &&& (2147483647 : Int32)) % (16384 : Int32)) + (1 : Int32))) (hr_r16 : r16 = ((((((q_4.toUInt64 >>> ((32 : Int32) &&& 0x3f).toInt64.toUInt64).toInt64).toInt32) &&& (2147483647 : Int32)) % (16384 : Int32)) + (1 : Int32))) (hr_r18 : r18 = (own_rm3_ret r2 r4)) (hr_r20 : r20 = (own_rm4_ret r2 r4)) (hr_r22 : r22 = (own_rm3_ret r6 r8)) (hr_r24 : r24 = (own_rm4_ret r6 r8)) (hr_r26 : r26 = (own_rm3_ret r10 r12)) (hr_r28 : r28 = (own_rm4_ret r10 r12)) (hr_r30 : r30 = (own_rm3_ret r14 r16)) (hr_r32 : r32 = (own_rm4_ret r14 r16)) (hr_r62 : r62 = (own_rm4_ret r18 r26)) (hr_r64 : r64 = (own_rm3_ret r20 r28)) (hc65 : r64 < r62) (hr_r67 : r67 = (own_rm4_ret r22 r30)) (hr_r69 : r69 = (own_rm3_ret r24 r32)) (hc70 : r69 < r67) (hr_r78 : r78 = (own_rm8_ret r18 r28 r26 r20 r22 r32 r30 r24)) : r78 = (0 : Int32) := by
  grind [own_rm3_ret, own_rm4_ret, own_rm8_ret]
set_option maxRecDepth 65536 in
set_option maxHeartbeats 4000000 in
theorem own_t0_1 (q_1 : Int64) (q_2 : Int64) (q_3 : Int64) (q_4 : Int64) (r2 : Int32) (r4 : Int32) (r6 : Int32) (r8 : Int32) (r10 : Int32) (r12 : Int32) (r14 : Int32) (r16 : Int32) (r18 : Int32) (r20 : Int32) (r22 : Int32) (r24 : Int32) (r26 : Int32) (r28 : Int32) (r30 : Int32) (r32 : Int32) (r62 : Int32) (r64 : Int32) (r67 : Int32) (r69 : Int32) (r78 : Int32) (r81 : Int32) (hr_r2 : r2 = ((((q_1.toInt32) &&& (2147483647 : Int32)) % (1048576 : Int32)) + (1 : Int32))) (hr_r4 : r4 = ((((((q_1.toUInt64 >>> ((32 : Int32) &&& 0x3f).toInt64.toUInt64).toInt64).toInt32) &&& (2147483647 : Int32)) % (1048576 : Int32)) + (1 : Int32))) (hr_r6 : r6 = ((((q_2.toInt32) &&& (2147483647 : Int32)) % (16384 : Int32)) + (1 : Int32))) (hr_r8 : r8 = ((((((q_2.toUInt64 >>> ((32 : Int32) &&& 0x3f).toInt64.toUInt64).toInt64).toInt32) &&& (2147483647 : Int32)) % (16384 : Int32)) + (1 : Int32))) (hr_r10 : r10 = ((((q_3.toInt32) &&& (2147483647 : Int32)) % (1048576 : Int32)) + (1 : Int32))) (hr_r12 : r12 = ((((((q_3.toUInt64 >>> ((32 : Int32) &&& 0x3f).toInt64.toUInt64).toInt64).toInt32) &&& (2147483647 : Int32)) % (1048576 : Int32)) + (1 : Int32))) (hr_r14 : r14 = ((((q_4.toInt32) &&& (2147483647 : Int32)) % (16384 : Int32)) + (1 : Int32))) (hr_r16 : r16 = ((((((q_4.toUInt64 >>> ((32 : Int32) &&& 0x3f).toInt64.toUInt64).toInt64).toInt32) &&& (2147483647 : Int32)) % (16384 : Int32)) + (1 : Int32))) (hr_r18 : r18 = (own_rm3_ret r2 r4)) (hr_r20 : r20 = (own_rm4_ret r2 r4)) (hr_r22 : r22 = (own_rm3_ret r6 r8)) (hr_r24 : r24 = (own_rm4_ret r6 r8)) (hr_r26 : r26 = (own_rm3_ret r10 r12)) (hr_r28 : r28 = (own_rm4_ret r10 r12)) (hr_r30 : r30 = (own_rm3_ret r14 r16)) (hr_r32 : r32 = (own_rm4_ret r14 r16)) (hr_r62 : r62 = (own_rm4_ret r18 r26)) (hr_r64 : r64 = (own_rm3_ret r20 r28)) (hc65 : r64 < r62) (hr_r67 : r67 = (own_rm4_ret r22 r30)) (hr_r69 : r69 = (own_rm3_ret r24 r32)) (hc70 : r69 < r67) (hr_r78 : r78 = (own_rm8_ret r18 r28 r26 r20 r22 r32 r30 r24)) (hc79 : r78 = (0 : Int32)) (hr_r81 : r81 = (own_rm8_ret r26 r20 r18 r28 r30 r24 r22 r32)) : r81 = (0 : Int32) := by
  grind [own_rm3_ret, own_rm4_ret, own_rm8_ret]
set_option maxRecDepth 65536 in
set_option maxHeartbeats 4000000 in
theorem own_t0_2 (q_1 : Int64) (q_2 : Int64) (q_3 : Int64) (q_4 : Int64) (r2 : Int32) (r4 : Int32) (r6 : Int32) (r8 : Int32) (r10 : Int32) (r12 : Int32) (r14 : Int32) (r16 : Int32) (r18 : Int32) (r20 : Int32) (r22 : Int32) (r24 : Int32) (r26 : Int32) (r28 : Int32) (r30 : Int32) (r32 : Int32) (r62 : Int32) (r64 : Int32) (r67 : Int32) (r69 : Int32) (r91 : Int32) (hr_r2 : r2 = ((((q_1.toInt32) &&& (2147483647 : Int32)) % (1048576 : Int32)) + (1 : Int32))) (hr_r4 : r4 = ((((((q_1.toUInt64 >>> ((32 : Int32) &&& 0x3f).toInt64.toUInt64).toInt64).toInt32) &&& (2147483647 : Int32)) % (1048576 : Int32)) + (1 : Int32))) (hr_r6 : r6 = ((((q_2.toInt32) &&& (2147483647 : Int32)) % (16384 : Int32)) + (1 : Int32))) (hr_r8 : r8 = ((((((q_2.toUInt64 >>> ((32 : Int32) &&& 0x3f).toInt64.toUInt64).toInt64).toInt32) &&& (2147483647 : Int32)) % (16384 : Int32)) + (1 : Int32))) (hr_r10 : r10 = ((((q_3.toInt32) &&& (2147483647 : Int32)) % (1048576 : Int32)) + (1 : Int32))) (hr_r12 : r12 = ((((((q_3.toUInt64 >>> ((32 : Int32) &&& 0x3f).toInt64.toUInt64).toInt64).toInt32) &&& (2147483647 : Int32)) % (1048576 : Int32)) + (1 : Int32))) (hr_r14 : r14 = ((((q_4.toInt32) &&& (2147483647 : Int32)) % (16384 : Int32)) + (1 : Int32))) (hr_r16 : r16 = ((((((q_4.toUInt64 >>> ((32 : Int32) &&& 0x3f).toInt64.toUInt64).toInt64).toInt32) &&& (2147483647 : Int32)) % (16384 : Int32)) + (1 : Int32))) (hr_r18 : r18 = (own_rm3_ret r2 r4)) (hr_r20 : r20 = (own_rm4_ret r2 r4)) (hr_r22 : r22 = (own_rm3_ret r6 r8)) (hr_r24 : r24 = (own_rm4_ret r6 r8)) (hr_r26 : r26 = (own_rm3_ret r10 r12)) (hr_r28 : r28 = (own_rm4_ret r10 r12)) (hr_r30 : r30 = (own_rm3_ret r14 r16)) (hr_r32 : r32 = (own_rm4_ret r14 r16)) (hr_r62 : r62 = (own_rm4_ret r18 r26)) (hr_r64 : r64 = (own_rm3_ret r20 r28)) (hc65 : r64 < r62) (hr_r67 : r67 = (own_rm4_ret r22 r30)) (hr_r69 : r69 = (own_rm3_ret r24 r32)) (hc70 : ¬ (r69 < r67)) (hr_r91 : r91 = (own_rm8_ret r18 r28 r26 r20 r22 r32 r30 r24)) : r91 = (0 : Int32) := by
  grind [own_rm3_ret, own_rm4_ret, own_rm8_ret]
set_option maxRecDepth 65536 in
set_option maxHeartbeats 4000000 in
theorem own_t0_3 (q_1 : Int64) (q_2 : Int64) (q_3 : Int64) (q_4 : Int64) (r2 : Int32) (r4 : Int32) (r6 : Int32) (r8 : Int32) (r10 : Int32) (r12 : Int32) (r14 : Int32) (r16 : Int32) (r18 : Int32) (r20 : Int32) (r22 : Int32) (r24 : Int32) (r26 : Int32) (r28 : Int32) (r30 : Int32) (r32 : Int32) (r62 : Int32) (r64 : Int32) (r67 : Int32) (r69 : Int32) (r91 : Int32) (r94 : Int32) (hr_r2 : r2 = ((((q_1.toInt32) &&& (2147483647 : Int32)) % (1048576 : Int32)) + (1 : Int32))) (hr_r4 : r4 = ((((((q_1.toUInt64 >>> ((32 : Int32) &&& 0x3f).toInt64.toUInt64).toInt64).toInt32) &&& (2147483647 : Int32)) % (1048576 : Int32)) + (1 : Int32))) (hr_r6 : r6 = ((((q_2.toInt32) &&& (2147483647 : Int32)) % (16384 : Int32)) + (1 : Int32))) (hr_r8 : r8 = ((((((q_2.toUInt64 >>> ((32 : Int32) &&& 0x3f).toInt64.toUInt64).toInt64).toInt32) &&& (2147483647 : Int32)) % (16384 : Int32)) + (1 : Int32))) (hr_r10 : r10 = ((((q_3.toInt32) &&& (2147483647 : Int32)) % (1048576 : Int32)) + (1 : Int32))) (hr_r12 : r12 = ((((((q_3.toUInt64 >>> ((32 : Int32) &&& 0x3f).toInt64.toUInt64).toInt64).toInt32) &&& (2147483647 : Int32)) % (1048576 : Int32)) + (1 : Int32))) (hr_r14 : r14 = ((((q_4.toInt32) &&& (2147483647 : Int32)) % (16384 : Int32)) + (1 : Int32))) (hr_r16 : r16 = ((((((q_4.toUInt64 >>> ((32 : Int32) &&& 0x3f).toInt64.toUInt64).toInt64).toInt32) &&& (2147483647 : Int32)) % (16384 : Int32)) + (1 : Int32))) (hr_r18 : r18 = (own_rm3_ret r2 r4)) (hr_r20 : r20 = (own_rm4_ret r2 r4)) (hr_r22 : r22 = (own_rm3_ret r6 r8)) (hr_r24 : r24 = (own_rm4_ret r6 r8)) (hr_r26 : r26 = (own_rm3_ret r10 r12)) (hr_r28 : r28 = (own_rm4_ret r10 r12)) (hr_r30 : r30 = (own_rm3_ret r14 r16)) (hr_r32 : r32 = (own_rm4_ret r14 r16)) (hr_r62 : r62 = (own_rm4_ret r18 r26)) (hr_r64 : r64 = (own_rm3_ret r20 r28)) (hc65 : r64 < r62) (hr_r67 : r67 = (own_rm4_ret r22 r30)) (hr_r69 : r69 = (own_rm3_ret r24 r32)) (hc70 : ¬ (r69 < r67)) (hr_r91 : r91 = (own_rm8_ret r18 r28 r26 r20 r22 r32 r30 r24)) (hc92 : r91 = (0 : Int32)) (hr_r94 : r94 = (own_rm8_ret r26 r20 r18 r28 r30 r24 r22 r32)) : r94 = (0 : Int32) := by
  grind [own_rm3_ret, own_rm4_ret, own_rm8_ret]
set_option maxRecDepth 65536 in
set_option maxHeartbeats 4000000 in
theorem own_t0_4 (q_1 : Int64) (q_2 : Int64) (q_3 : Int64) (q_4 : Int64) (r2 : Int32) (r4 : Int32) (r6 : Int32) (r8 : Int32) (r10 : Int32) (r12 : Int32) (r14 : Int32) (r16 : Int32) (r18 : Int32) (r20 : Int32) (r22 : Int32) (r24 : Int32) (r26 : Int32) (r28 : Int32) (r30 : Int32) (r32 : Int32) (r62 : Int32) (r64 : Int32) (r98 : Int32) (r100 : Int32) (r110 : Int32) (hr_r2 : r2 = ((((q_1.toInt32) &&& (2147483647 : Int32)) % (1048576 : Int32)) + (1 : Int32))) (hr_r4 : r4 = ((((((q_1.toUInt64 >>> ((32 : Int32) &&& 0x3f).toInt64.toUInt64).toInt64).toInt32) &&& (2147483647 : Int32)) % (1048576 : Int32)) + (1 : Int32))) (hr_r6 : r6 = ((((q_2.toInt32) &&& (2147483647 : Int32)) % (16384 : Int32)) + (1 : Int32))) (hr_r8 : r8 = ((((((q_2.toUInt64 >>> ((32 : Int32) &&& 0x3f).toInt64.toUInt64).toInt64).toInt32) &&& (2147483647 : Int32)) % (16384 : Int32)) + (1 : Int32))) (hr_r10 : r10 = ((((q_3.toInt32) &&& (2147483647 : Int32)) % (1048576 : Int32)) + (1 : Int32))) (hr_r12 : r12 = ((((((q_3.toUInt64 >>> ((32 : Int32) &&& 0x3f).toInt64.toUInt64).toInt64).toInt32) &&& (2147483647 : Int32)) % (1048576 : Int32)) + (1 : Int32))) (hr_r14 : r14 = ((((q_4.toInt32) &&& (2147483647 : Int32)) % (16384 : Int32)) + (1 : Int32))) (hr_r16 : r16 = ((((((q_4.toUInt64 >>> ((32 : Int32) &&& 0x3f).toInt64.toUInt64).toInt64).toInt32) &&& (2147483647 : Int32)) % (16384 : Int32)) + (1 : Int32))) (hr_r18 : r18 = (own_rm3_ret r2 r4)) (hr_r20 : r20 = (own_rm4_ret r2 r4)) (hr_r22 : r22 = (own_rm3_ret r6 r8)) (hr_r24 : r24 = (own_rm4_ret r6 r8)) (hr_r26 : r26 = (own_rm3_ret r10 r12)) (hr_r28 : r28 = (own_rm4_ret r10 r12)) (hr_r30 : r30 = (own_rm3_ret r14 r16)) (hr_r32 : r32 = (own_rm4_ret r14 r16)) (hr_r62 : r62 = (own_rm4_ret r18 r26)) (hr_r64 : r64 = (own_rm3_ret r20 r28)) (hc65 : ¬ (r64 < r62)) (hr_r98 : r98 = (own_rm4_ret r22 r30)) (hr_r100 : r100 = (own_rm3_ret r24 r32)) (hc101 : r100 < r98) (hr_r110 : r110 = (own_rm8_ret r18 r28 r26 r20 r22 r32 r30 r24)) : r110 = (0 : Int32) := by
  grind [own_rm3_ret, own_rm4_ret, own_rm8_ret]
set_option maxRecDepth 65536 in
set_option maxHeartbeats 4000000 in
theorem own_t0_5 (q_1 : Int64) (q_2 : Int64) (q_3 : Int64) (q_4 : Int64) (r2 : Int32) (r4 : Int32) (r6 : Int32) (r8 : Int32) (r10 : Int32) (r12 : Int32) (r14 : Int32) (r16 : Int32) (r18 : Int32) (r20 : Int32) (r22 : Int32) (r24 : Int32) (r26 : Int32) (r28 : Int32) (r30 : Int32) (r32 : Int32) (r62 : Int32) (r64 : Int32) (r98 : Int32) (r100 : Int32) (r110 : Int32) (r113 : Int32) (hr_r2 : r2 = ((((q_1.toInt32) &&& (2147483647 : Int32)) % (1048576 : Int32)) + (1 : Int32))) (hr_r4 : r4 = ((((((q_1.toUInt64 >>> ((32 : Int32) &&& 0x3f).toInt64.toUInt64).toInt64).toInt32) &&& (2147483647 : Int32)) % (1048576 : Int32)) + (1 : Int32))) (hr_r6 : r6 = ((((q_2.toInt32) &&& (2147483647 : Int32)) % (16384 : Int32)) + (1 : Int32))) (hr_r8 : r8 = ((((((q_2.toUInt64 >>> ((32 : Int32) &&& 0x3f).toInt64.toUInt64).toInt64).toInt32) &&& (2147483647 : Int32)) % (16384 : Int32)) + (1 : Int32))) (hr_r10 : r10 = ((((q_3.toInt32) &&& (2147483647 : Int32)) % (1048576 : Int32)) + (1 : Int32))) (hr_r12 : r12 = ((((((q_3.toUInt64 >>> ((32 : Int32) &&& 0x3f).toInt64.toUInt64).toInt64).toInt32) &&& (2147483647 : Int32)) % (1048576 : Int32)) + (1 : Int32))) (hr_r14 : r14 = ((((q_4.toInt32) &&& (2147483647 : Int32)) % (16384 : Int32)) + (1 : Int32))) (hr_r16 : r16 = ((((((q_4.toUInt64 >>> ((32 : Int32) &&& 0x3f).toInt64.toUInt64).toInt64).toInt32) &&& (2147483647 : Int32)) % (16384 : Int32)) + (1 : Int32))) (hr_r18 : r18 = (own_rm3_ret r2 r4)) (hr_r20 : r20 = (own_rm4_ret r2 r4)) (hr_r22 : r22 = (own_rm3_ret r6 r8)) (hr_r24 : r24 = (own_rm4_ret r6 r8)) (hr_r26 : r26 = (own_rm3_ret r10 r12)) (hr_r28 : r28 = (own_rm4_ret r10 r12)) (hr_r30 : r30 = (own_rm3_ret r14 r16)) (hr_r32 : r32 = (own_rm4_ret r14 r16)) (hr_r62 : r62 = (own_rm4_ret r18 r26)) (hr_r64 : r64 = (own_rm3_ret r20 r28)) (hc65 : ¬ (r64 < r62)) (hr_r98 : r98 = (own_rm4_ret r22 r30)) (hr_r100 : r100 = (own_rm3_ret r24 r32)) (hc101 : r100 < r98) (hr_r110 : r110 = (own_rm8_ret r18 r28 r26 r20 r22 r32 r30 r24)) (hc111 : r110 = (0 : Int32)) (hr_r113 : r113 = (own_rm8_ret r26 r20 r18 r28 r30 r24 r22 r32)) : r113 = (0 : Int32) := by
  grind [own_rm3_ret, own_rm4_ret, own_rm8_ret]
set_option maxRecDepth 65536 in
set_option maxHeartbeats 4000000 in
theorem own_t0_6 (q_1 : Int64) (q_2 : Int64) (q_3 : Int64) (q_4 : Int64) (r2 : Int32) (r4 : Int32) (r6 : Int32) (r8 : Int32) (r10 : Int32) (r12 : Int32) (r14 : Int32) (r16 : Int32) (r18 : Int32) (r20 : Int32) (r22 : Int32) (r24 : Int32) (r26 : Int32) (r28 : Int32) (r30 : Int32) (r32 : Int32) (r62 : Int32) (r64 : Int32) (r98 : Int32) (r100 : Int32) (r124 : Int32) (hr_r2 : r2 = ((((q_1.toInt32) &&& (2147483647 : Int32)) % (1048576 : Int32)) + (1 : Int32))) (hr_r4 : r4 = ((((((q_1.toUInt64 >>> ((32 : Int32) &&& 0x3f).toInt64.toUInt64).toInt64).toInt32) &&& (2147483647 : Int32)) % (1048576 : Int32)) + (1 : Int32))) (hr_r6 : r6 = ((((q_2.toInt32) &&& (2147483647 : Int32)) % (16384 : Int32)) + (1 : Int32))) (hr_r8 : r8 = ((((((q_2.toUInt64 >>> ((32 : Int32) &&& 0x3f).toInt64.toUInt64).toInt64).toInt32) &&& (2147483647 : Int32)) % (16384 : Int32)) + (1 : Int32))) (hr_r10 : r10 = ((((q_3.toInt32) &&& (2147483647 : Int32)) % (1048576 : Int32)) + (1 : Int32))) (hr_r12 : r12 = ((((((q_3.toUInt64 >>> ((32 : Int32) &&& 0x3f).toInt64.toUInt64).toInt64).toInt32) &&& (2147483647 : Int32)) % (1048576 : Int32)) + (1 : Int32))) (hr_r14 : r14 = ((((q_4.toInt32) &&& (2147483647 : Int32)) % (16384 : Int32)) + (1 : Int32))) (hr_r16 : r16 = ((((((q_4.toUInt64 >>> ((32 : Int32) &&& 0x3f).toInt64.toUInt64).toInt64).toInt32) &&& (2147483647 : Int32)) % (16384 : Int32)) + (1 : Int32))) (hr_r18 : r18 = (own_rm3_ret r2 r4)) (hr_r20 : r20 = (own_rm4_ret r2 r4)) (hr_r22 : r22 = (own_rm3_ret r6 r8)) (hr_r24 : r24 = (own_rm4_ret r6 r8)) (hr_r26 : r26 = (own_rm3_ret r10 r12)) (hr_r28 : r28 = (own_rm4_ret r10 r12)) (hr_r30 : r30 = (own_rm3_ret r14 r16)) (hr_r32 : r32 = (own_rm4_ret r14 r16)) (hr_r62 : r62 = (own_rm4_ret r18 r26)) (hr_r64 : r64 = (own_rm3_ret r20 r28)) (hc65 : ¬ (r64 < r62)) (hr_r98 : r98 = (own_rm4_ret r22 r30)) (hr_r100 : r100 = (own_rm3_ret r24 r32)) (hc101 : ¬ (r100 < r98)) (hr_r124 : r124 = (own_rm8_ret r18 r28 r26 r20 r22 r32 r30 r24)) : r124 = (1 : Int32) := by
  grind [own_rm3_ret, own_rm4_ret, own_rm8_ret]
set_option maxRecDepth 65536 in
set_option maxHeartbeats 4000000 in
theorem own_t0_7 (q_1 : Int64) (q_2 : Int64) (q_3 : Int64) (q_4 : Int64) (r2 : Int32) (r4 : Int32) (r6 : Int32) (r8 : Int32) (r10 : Int32) (r12 : Int32) (r14 : Int32) (r16 : Int32) (r18 : Int32) (r20 : Int32) (r22 : Int32) (r24 : Int32) (r26 : Int32) (r28 : Int32) (r30 : Int32) (r32 : Int32) (r62 : Int32) (r64 : Int32) (r98 : Int32) (r100 : Int32) (r124 : Int32) (r127 : Int32) (hr_r2 : r2 = ((((q_1.toInt32) &&& (2147483647 : Int32)) % (1048576 : Int32)) + (1 : Int32))) (hr_r4 : r4 = ((((((q_1.toUInt64 >>> ((32 : Int32) &&& 0x3f).toInt64.toUInt64).toInt64).toInt32) &&& (2147483647 : Int32)) % (1048576 : Int32)) + (1 : Int32))) (hr_r6 : r6 = ((((q_2.toInt32) &&& (2147483647 : Int32)) % (16384 : Int32)) + (1 : Int32))) (hr_r8 : r8 = ((((((q_2.toUInt64 >>> ((32 : Int32) &&& 0x3f).toInt64.toUInt64).toInt64).toInt32) &&& (2147483647 : Int32)) % (16384 : Int32)) + (1 : Int32))) (hr_r10 : r10 = ((((q_3.toInt32) &&& (2147483647 : Int32)) % (1048576 : Int32)) + (1 : Int32))) (hr_r12 : r12 = ((((((q_3.toUInt64 >>> ((32 : Int32) &&& 0x3f).toInt64.toUInt64).toInt64).toInt32) &&& (2147483647 : Int32)) % (1048576 : Int32)) + (1 : Int32))) (hr_r14 : r14 = ((((q_4.toInt32) &&& (2147483647 : Int32)) % (16384 : Int32)) + (1 : Int32))) (hr_r16 : r16 = ((((((q_4.toUInt64 >>> ((32 : Int32) &&& 0x3f).toInt64.toUInt64).toInt64).toInt32) &&& (2147483647 : Int32)) % (16384 : Int32)) + (1 : Int32))) (hr_r18 : r18 = (own_rm3_ret r2 r4)) (hr_r20 : r20 = (own_rm4_ret r2 r4)) (hr_r22 : r22 = (own_rm3_ret r6 r8)) (hr_r24 : r24 = (own_rm4_ret r6 r8)) (hr_r26 : r26 = (own_rm3_ret r10 r12)) (hr_r28 : r28 = (own_rm4_ret r10 r12)) (hr_r30 : r30 = (own_rm3_ret r14 r16)) (hr_r32 : r32 = (own_rm4_ret r14 r16)) (hr_r62 : r62 = (own_rm4_ret r18 r26)) (hr_r64 : r64 = (own_rm3_ret r20 r28)) (hc65 : ¬ (r64 < r62)) (hr_r98 : r98 = (own_rm4_ret r22 r30)) (hr_r100 : r100 = (own_rm3_ret r24 r32)) (hc101 : ¬ (r100 < r98)) (hr_r124 : r124 = (own_rm8_ret r18 r28 r26 r20 r22 r32 r30 r24)) (hc125 : r124 = (1 : Int32)) (hr_r127 : r127 = (own_rm8_ret r26 r20 r18 r28 r30 r24 r22 r32)) : r127 = (1 : Int32) := by
  grind [own_rm3_ret, own_rm4_ret, own_rm8_ret]
def own_Q0 (Z : State) (q_1 : Int64) (q_2 : Int64) (q_3 : Int64) (q_4 : Int64) (h0 : Heap) (n0 : Nat) (v : Option Value) (h : Heap) (L : List Loc) : Prop := v = some (.int (1 : Int32)) ∧ Fr n0 L
set_option maxRecDepth 65536 in
set_option maxHeartbeats 40000000 in
theorem own_rm0 (l : Launch) (Z : State) (a0 : Array Value) (hw : ∀ d ∈ tables_1, d.before a0 Z = true) (ws : List Jvm.Cond) (q_1 : Int64) (q_2 : Int64) (q_3 : Int64) (q_4 : Int64) (h0 : Heap) (n0 : Nat) (Z0 : n0 ≤ h0.size) :
    MetFree l x (head1 (Jvm.Cond.code x code maxLocals ret :: ws) room_1) (fun a U => a = #[(.long q_1), (.long q_2), (.long q_3), (.long q_4)] ∧ Z.Warmed39 U.vm ∧ U.heap = h0) (fun _ _ _ _ _ => True) (fun _ U o U' => ∃ v L, o = .returned v ∧ own_Q0 Z q_1 q_2 q_3 q_4 h0 n0 v U'.heap L ∧ FrameEnd U o U' L 2 8) := by
  refine MetFree.of_bodySF (plainFor_of_name own_pn0) hisR ?_
  intro p e s m args below meth c s₁ Bd hml0 hP hK
  obtain ⟨rfl, hZ, hh⟩ := hP
  have hx := Bd.exec
  have hby := Bd.bytes
  have hml : c.maxLocals = 29 := hml0
  have hown : s.vm.findClass "com/example/ratebook/ratebook/CellRangeOverlapsPinLaw" = some m.cls := findClass_of_methodNamed Bd.named
  have hnm := (name_of_methodNamed Bd.named Bd.method).1
  have X0 : Stand p l e room_1 s m #[(.long q_1), (.long q_2), (.long q_3), (.long q_4)] below meth c s₁ [] 0 0 := Stand.of_body Bd
  have e0 : s₁.heap = h0 := by rw [← hh, Bd.state]; rfl
  have N0 := Fr.nil n0
  have z0 : n0 ≤ h0.size := Z0
  show own_Go p.tables e below (fun t o => t.status = .running ∧ Ended t below o ∧ ∃ v L, o = .returned v ∧ own_Q0 Z q_1 q_2 q_3 q_4 h0 n0 v t.heap L ∧ FrameEnd s o t L 2 8) s₁ (entryFrame m #[(.long q_1), (.long q_2), (.long q_3), (.long q_4)] maxLocals)
  rw [own_ef_own_rm0 m q_1 q_2 q_3 q_4]
  show own_Go _ _ _ _ s₁ (mkF m 0 #[.val (.long q_1), .second, .val (.long q_2), .second, .val (.long q_3), .second, .val (.long q_4), .second, .unset, .unset, .unset, .unset, .unset, .unset, .unset, .unset, .unset, .unset, .unset, .unset, .unset, .unset, .unset, .unset, .unset, .unset, .unset, .unset, .unset] [])
  refine own_go (fun _ k => XS.lloadN X0.here hx rfl (hb hby at_0) rfl k) ?_
  show own_Go _ _ _ _ s₁ (mkF m 1 #[.val (.long q_1), .second, .val (.long q_2), .second, .val (.long q_3), .second, .val (.long q_4), .second, .unset, .unset, .unset, .unset, .unset, .unset, .unset, .unset, .unset, .unset, .unset, .unset, .unset, .unset, .unset, .unset, .unset, .unset, .unset, .unset, .unset] [(.long q_1)])
  refine own_go (fun _ k => XS.l2i X0.here hx rfl (hb hby at_1) rfl k) ?_
  show own_Go _ _ _ _ s₁ (mkF m 2 #[.val (.long q_1), .second, .val (.long q_2), .second, .val (.long q_3), .second, .val (.long q_4), .second, .unset, .unset, .unset, .unset, .unset, .unset, .unset, .unset, .unset, .unset, .unset, .unset, .unset, .unset, .unset, .unset, .unset, .unset, .unset, .unset, .unset] [(.int (q_1.toInt32))])
  obtain ⟨_, _, ⟨T1, L1, k1, n1⟩, -, X1, ⟨Lc1, hQ1, l1, y1, z1⟩, st1⟩ := Jvm.LawKit.callS X0 hx (y := (⟨"com/example/ratebook/ratebook/CellRangeOverlapsPinLaw", "row", "(I)I"⟩ : MethodName)) hown (mvT hZ (hw _ (List.mem_of_getElem? (i := 0) rfl))) (mvT hZ (hw _ (List.mem_of_getElem? (i := 1) rfl))) (mvT hZ (hw _ (List.mem_of_getElem? (i := 2) rfl))) (mvT hZ (hw _ (List.mem_of_getElem? (i := 3) rfl))) (by decide) (backOf (W := 0) (own_rm1 l Z a0 hw [] (q_1.toInt32)  h0 n0 (by omega) ) hZ (hw _ (List.mem_of_getElem? (i := 3) rfl)) (hw _ (List.mem_of_getElem? (i := 2) rfl)) (by decide) (by decide)) (g := (mkF m 2 #[.val (.long q_1), .second, .val (.long q_2), .second, .val (.long q_3), .second, .val (.long q_4), .second, .unset, .unset, .unset, .unset, .unset, .unset, .unset, .unset, .unset, .unset, .unset, .unset, .unset, .unset, .unset, .unset, .unset, .unset, .unset, .unset, .unset] [(.int (q_1.toInt32))])) rfl (by rw [hml]; rfl) (argsL := [(.int (q_1.toInt32))]) (rest := []) (lenOf own_pd1 rfl) rfl (by show 2 * 0 + _ ≤ _; exact Nat.le_of_eq rfl) (hb hby at_2) (fun _ _ => ⟨rfl, e0, (by decide : 0 + 0 ≤ _), (by decide : 0 + 0 ≤ _)⟩)
  dsimp only [Pt.U, Pt.locs, Pt.cells, Pt.slots] at X1 l1 y1 z1 st1 hQ1
  have y1 : k1 = 0 := y1
  have z1 : n1 = 0 := z1
  obtain ⟨r2, rfl, N1q, hr_r2, e1⟩ := hQ1
  have N1 : Fr n0 L1 := by rw [l1]; exact Fr.app N0 N1q
  refine own_go (fun _ k => st1 _ k) ?_
  show own_Go _ _ _ _ T1 (mkF m 5 #[.val (.long q_1), .second, .val (.long q_2), .second, .val (.long q_3), .second, .val (.long q_4), .second, .unset, .unset, .unset, .unset, .unset, .unset, .unset, .unset, .unset, .unset, .unset, .unset, .unset, .unset, .unset, .unset, .unset, .unset, .unset, .unset, .unset] [(.int r2)])
  refine own_go (fun _ k => XS.istore X1.here hx rfl (hb hby at_5) rfl (l' := #[.val (.long q_1), .second, .val (.long q_2), .second, .val (.long q_3), .second, .val (.long q_4), .second, .val (.int r2), .unset, .unset, .unset, .unset, .unset, .unset, .unset, .unset, .unset, .unset, .unset, .unset, .unset, .unset, .unset, .unset, .unset, .unset, .unset, .unset]) rfl k) ?_
  show own_Go _ _ _ _ T1 (mkF m 7 #[.val (.long q_1), .second, .val (.long q_2), .second, .val (.long q_3), .second, .val (.long q_4), .second, .val (.int r2), .unset, .unset, .unset, .unset, .unset, .unset, .unset, .unset, .unset, .unset, .unset, .unset, .unset, .unset, .unset, .unset, .unset, .unset, .unset, .unset] [])
  refine own_go (fun _ k => XS.lloadN X1.here hx rfl (hb hby at_7) rfl k) ?_
  show own_Go _ _ _ _ T1 (mkF m 8 #[.val (.long q_1), .second, .val (.long q_2), .second, .val (.long q_3), .second, .val (.long q_4), .second, .val (.int r2), .unset, .unset, .unset, .unset, .unset, .unset, .unset, .unset, .unset, .unset, .unset, .unset, .unset, .unset, .unset, .unset, .unset, .unset, .unset, .unset] [(.long q_1)])
  refine own_go (fun _ k => XS.bipush X1.here hx rfl (hb hby at_8) k) ?_
  show own_Go _ _ _ _ T1 (mkF m 10 #[.val (.long q_1), .second, .val (.long q_2), .second, .val (.long q_3), .second, .val (.long q_4), .second, .val (.int r2), .unset, .unset, .unset, .unset, .unset, .unset, .unset, .unset, .unset, .unset, .unset, .unset, .unset, .unset, .unset, .unset, .unset, .unset, .unset, .unset] [(.int (32 : Int32)), (.long q_1)])
  refine own_go (fun _ k => XS.lushr X1.here hx rfl (hb hby at_10) rfl k) ?_
  show own_Go _ _ _ _ T1 (mkF m 11 #[.val (.long q_1), .second, .val (.long q_2), .second, .val (.long q_3), .second, .val (.long q_4), .second, .val (.int r2), .unset, .unset, .unset, .unset, .unset, .unset, .unset, .unset, .unset, .unset, .unset, .unset, .unset, .unset, .unset, .unset, .unset, .unset, .unset, .unset] [(.long ((q_1.toUInt64 >>> ((32 : Int32) &&& 0x3f).toInt64.toUInt64).toInt64))])
  refine own_go (fun _ k => XS.l2i X1.here hx rfl (hb hby at_11) rfl k) ?_
  show own_Go _ _ _ _ T1 (mkF m 12 #[.val (.long q_1), .second, .val (.long q_2), .second, .val (.long q_3), .second, .val (.long q_4), .second, .val (.int r2), .unset, .unset, .unset, .unset, .unset, .unset, .unset, .unset, .unset, .unset, .unset, .unset, .unset, .unset, .unset, .unset, .unset, .unset, .unset, .unset] [(.int (((q_1.toUInt64 >>> ((32 : Int32) &&& 0x3f).toInt64.toUInt64).toInt64).toInt32))])
  obtain ⟨_, _, ⟨T3, L3, k3, n3⟩, -, X3, ⟨Lc3, hQ3, l3, y3, z3⟩, st3⟩ := Jvm.LawKit.callS X1 hx (y := (⟨"com/example/ratebook/ratebook/CellRangeOverlapsPinLaw", "row", "(I)I"⟩ : MethodName)) hown (mvT hZ (hw _ (List.mem_of_getElem? (i := 0) rfl))) (mvT hZ (hw _ (List.mem_of_getElem? (i := 1) rfl))) (mvT hZ (hw _ (List.mem_of_getElem? (i := 2) rfl))) (mvT hZ (hw _ (List.mem_of_getElem? (i := 3) rfl))) (by decide) (backOf (W := 0) (own_rm1 l Z a0 hw [] (((q_1.toUInt64 >>> ((32 : Int32) &&& 0x3f).toInt64.toUInt64).toInt64).toInt32)  h0 n0 (by omega) ) hZ (hw _ (List.mem_of_getElem? (i := 3) rfl)) (hw _ (List.mem_of_getElem? (i := 2) rfl)) (by decide) (by decide)) (g := (mkF m 12 #[.val (.long q_1), .second, .val (.long q_2), .second, .val (.long q_3), .second, .val (.long q_4), .second, .val (.int r2), .unset, .unset, .unset, .unset, .unset, .unset, .unset, .unset, .unset, .unset, .unset, .unset, .unset, .unset, .unset, .unset, .unset, .unset, .unset, .unset] [(.int (((q_1.toUInt64 >>> ((32 : Int32) &&& 0x3f).toInt64.toUInt64).toInt64).toInt32))])) rfl (by rw [hml]; rfl) (argsL := [(.int (((q_1.toUInt64 >>> ((32 : Int32) &&& 0x3f).toInt64.toUInt64).toInt64).toInt32))]) (rest := []) (lenOf own_pd1 rfl) rfl (by show 2 * 0 + _ ≤ _; exact Nat.le_of_eq rfl) (hb hby at_12) (fun _ _ => ⟨rfl, e1, (by show k1 + _ ≤ _; rw [y1]; decide), (by show n1 + _ ≤ _; rw [z1]; decide)⟩)
  dsimp only [Pt.U, Pt.locs, Pt.cells, Pt.slots] at X3 l3 y3 z3 st3 hQ3
  have y3 : k3 = 0 := own_addeq y3 (congrArg (fun q => q) y1) rfl
  have z3 : n3 = 0 := own_addeq z3 (congrArg (fun q => q) z1) rfl
  obtain ⟨r4, rfl, N3q, hr_r4, e3⟩ := hQ3
  have N3 : Fr n0 L3 := by rw [l3]; exact Fr.app N1 N3q
  refine own_go (fun _ k => st3 _ k) ?_
  show own_Go _ _ _ _ T3 (mkF m 15 #[.val (.long q_1), .second, .val (.long q_2), .second, .val (.long q_3), .second, .val (.long q_4), .second, .val (.int r2), .unset, .unset, .unset, .unset, .unset, .unset, .unset, .unset, .unset, .unset, .unset, .unset, .unset, .unset, .unset, .unset, .unset, .unset, .unset, .unset] [(.int r4)])
  refine own_go (fun _ k => XS.istore X3.here hx rfl (hb hby at_15) rfl (l' := #[.val (.long q_1), .second, .val (.long q_2), .second, .val (.long q_3), .second, .val (.long q_4), .second, .val (.int r2), .val (.int r4), .unset, .unset, .unset, .unset, .unset, .unset, .unset, .unset, .unset, .unset, .unset, .unset, .unset, .unset, .unset, .unset, .unset, .unset, .unset]) rfl k) ?_
  show own_Go _ _ _ _ T3 (mkF m 17 #[.val (.long q_1), .second, .val (.long q_2), .second, .val (.long q_3), .second, .val (.long q_4), .second, .val (.int r2), .val (.int r4), .unset, .unset, .unset, .unset, .unset, .unset, .unset, .unset, .unset, .unset, .unset, .unset, .unset, .unset, .unset, .unset, .unset, .unset, .unset] [])
  refine own_go (fun _ k => XS.lloadN X3.here hx rfl (hb hby at_17) rfl k) ?_
  show own_Go _ _ _ _ T3 (mkF m 18 #[.val (.long q_1), .second, .val (.long q_2), .second, .val (.long q_3), .second, .val (.long q_4), .second, .val (.int r2), .val (.int r4), .unset, .unset, .unset, .unset, .unset, .unset, .unset, .unset, .unset, .unset, .unset, .unset, .unset, .unset, .unset, .unset, .unset, .unset, .unset] [(.long q_2)])
  refine own_go (fun _ k => XS.l2i X3.here hx rfl (hb hby at_18) rfl k) ?_
  show own_Go _ _ _ _ T3 (mkF m 19 #[.val (.long q_1), .second, .val (.long q_2), .second, .val (.long q_3), .second, .val (.long q_4), .second, .val (.int r2), .val (.int r4), .unset, .unset, .unset, .unset, .unset, .unset, .unset, .unset, .unset, .unset, .unset, .unset, .unset, .unset, .unset, .unset, .unset, .unset, .unset] [(.int (q_2.toInt32))])
  obtain ⟨_, _, ⟨T5, L5, k5, n5⟩, -, X5, ⟨Lc5, hQ5, l5, y5, z5⟩, st5⟩ := Jvm.LawKit.callS X3 hx (y := (⟨"com/example/ratebook/ratebook/CellRangeOverlapsPinLaw", "col", "(I)I"⟩ : MethodName)) hown (mvT hZ (hw _ (List.mem_of_getElem? (i := 6) rfl))) (mvT hZ (hw _ (List.mem_of_getElem? (i := 7) rfl))) (mvT hZ (hw _ (List.mem_of_getElem? (i := 2) rfl))) (mvT hZ (hw _ (List.mem_of_getElem? (i := 8) rfl))) (by decide) (backOf (W := 0) (own_rm2 l Z a0 hw [] (q_2.toInt32)  h0 n0 (by omega) ) hZ (hw _ (List.mem_of_getElem? (i := 8) rfl)) (hw _ (List.mem_of_getElem? (i := 2) rfl)) (by decide) (by decide)) (g := (mkF m 19 #[.val (.long q_1), .second, .val (.long q_2), .second, .val (.long q_3), .second, .val (.long q_4), .second, .val (.int r2), .val (.int r4), .unset, .unset, .unset, .unset, .unset, .unset, .unset, .unset, .unset, .unset, .unset, .unset, .unset, .unset, .unset, .unset, .unset, .unset, .unset] [(.int (q_2.toInt32))])) rfl (by rw [hml]; rfl) (argsL := [(.int (q_2.toInt32))]) (rest := []) (lenOf own_pd1 rfl) rfl (by show 2 * 0 + _ ≤ _; exact Nat.le_of_eq rfl) (hb hby at_19) (fun _ _ => ⟨rfl, e3, (by show k3 + _ ≤ _; rw [y3]; decide), (by show n3 + _ ≤ _; rw [z3]; decide)⟩)
  dsimp only [Pt.U, Pt.locs, Pt.cells, Pt.slots] at X5 l5 y5 z5 st5 hQ5
  have y5 : k5 = 0 := own_addeq y5 (congrArg (fun q => q) y3) rfl
  have z5 : n5 = 0 := own_addeq z5 (congrArg (fun q => q) z3) rfl
  obtain ⟨r6, rfl, N5q, hr_r6, e5⟩ := hQ5
  have N5 : Fr n0 L5 := by rw [l5]; exact Fr.app N3 N5q
  refine own_go (fun _ k => st5 _ k) ?_
  show own_Go _ _ _ _ T5 (mkF m 22 #[.val (.long q_1), .second, .val (.long q_2), .second, .val (.long q_3), .second, .val (.long q_4), .second, .val (.int r2), .val (.int r4), .unset, .unset, .unset, .unset, .unset, .unset, .unset, .unset, .unset, .unset, .unset, .unset, .unset, .unset, .unset, .unset, .unset, .unset, .unset] [(.int r6)])
  refine own_go (fun _ k => XS.istore X5.here hx rfl (hb hby at_22) rfl (l' := #[.val (.long q_1), .second, .val (.long q_2), .second, .val (.long q_3), .second, .val (.long q_4), .second, .val (.int r2), .val (.int r4), .val (.int r6), .unset, .unset, .unset, .unset, .unset, .unset, .unset, .unset, .unset, .unset, .unset, .unset, .unset, .unset, .unset, .unset, .unset, .unset]) rfl k) ?_
  show own_Go _ _ _ _ T5 (mkF m 24 #[.val (.long q_1), .second, .val (.long q_2), .second, .val (.long q_3), .second, .val (.long q_4), .second, .val (.int r2), .val (.int r4), .val (.int r6), .unset, .unset, .unset, .unset, .unset, .unset, .unset, .unset, .unset, .unset, .unset, .unset, .unset, .unset, .unset, .unset, .unset, .unset] [])
  refine own_go (fun _ k => XS.lloadN X5.here hx rfl (hb hby at_24) rfl k) ?_
  show own_Go _ _ _ _ T5 (mkF m 25 #[.val (.long q_1), .second, .val (.long q_2), .second, .val (.long q_3), .second, .val (.long q_4), .second, .val (.int r2), .val (.int r4), .val (.int r6), .unset, .unset, .unset, .unset, .unset, .unset, .unset, .unset, .unset, .unset, .unset, .unset, .unset, .unset, .unset, .unset, .unset, .unset] [(.long q_2)])
  refine own_go (fun _ k => XS.bipush X5.here hx rfl (hb hby at_25) k) ?_
  show own_Go _ _ _ _ T5 (mkF m 27 #[.val (.long q_1), .second, .val (.long q_2), .second, .val (.long q_3), .second, .val (.long q_4), .second, .val (.int r2), .val (.int r4), .val (.int r6), .unset, .unset, .unset, .unset, .unset, .unset, .unset, .unset, .unset, .unset, .unset, .unset, .unset, .unset, .unset, .unset, .unset, .unset] [(.int (32 : Int32)), (.long q_2)])
  refine own_go (fun _ k => XS.lushr X5.here hx rfl (hb hby at_27) rfl k) ?_
  show own_Go _ _ _ _ T5 (mkF m 28 #[.val (.long q_1), .second, .val (.long q_2), .second, .val (.long q_3), .second, .val (.long q_4), .second, .val (.int r2), .val (.int r4), .val (.int r6), .unset, .unset, .unset, .unset, .unset, .unset, .unset, .unset, .unset, .unset, .unset, .unset, .unset, .unset, .unset, .unset, .unset, .unset] [(.long ((q_2.toUInt64 >>> ((32 : Int32) &&& 0x3f).toInt64.toUInt64).toInt64))])
  refine own_go (fun _ k => XS.l2i X5.here hx rfl (hb hby at_28) rfl k) ?_
  show own_Go _ _ _ _ T5 (mkF m 29 #[.val (.long q_1), .second, .val (.long q_2), .second, .val (.long q_3), .second, .val (.long q_4), .second, .val (.int r2), .val (.int r4), .val (.int r6), .unset, .unset, .unset, .unset, .unset, .unset, .unset, .unset, .unset, .unset, .unset, .unset, .unset, .unset, .unset, .unset, .unset, .unset] [(.int (((q_2.toUInt64 >>> ((32 : Int32) &&& 0x3f).toInt64.toUInt64).toInt64).toInt32))])
  obtain ⟨_, _, ⟨T7, L7, k7, n7⟩, -, X7, ⟨Lc7, hQ7, l7, y7, z7⟩, st7⟩ := Jvm.LawKit.callS X5 hx (y := (⟨"com/example/ratebook/ratebook/CellRangeOverlapsPinLaw", "col", "(I)I"⟩ : MethodName)) hown (mvT hZ (hw _ (List.mem_of_getElem? (i := 6) rfl))) (mvT hZ (hw _ (List.mem_of_getElem? (i := 7) rfl))) (mvT hZ (hw _ (List.mem_of_getElem? (i := 2) rfl))) (mvT hZ (hw _ (List.mem_of_getElem? (i := 8) rfl))) (by decide) (backOf (W := 0) (own_rm2 l Z a0 hw [] (((q_2.toUInt64 >>> ((32 : Int32) &&& 0x3f).toInt64.toUInt64).toInt64).toInt32)  h0 n0 (by omega) ) hZ (hw _ (List.mem_of_getElem? (i := 8) rfl)) (hw _ (List.mem_of_getElem? (i := 2) rfl)) (by decide) (by decide)) (g := (mkF m 29 #[.val (.long q_1), .second, .val (.long q_2), .second, .val (.long q_3), .second, .val (.long q_4), .second, .val (.int r2), .val (.int r4), .val (.int r6), .unset, .unset, .unset, .unset, .unset, .unset, .unset, .unset, .unset, .unset, .unset, .unset, .unset, .unset, .unset, .unset, .unset, .unset] [(.int (((q_2.toUInt64 >>> ((32 : Int32) &&& 0x3f).toInt64.toUInt64).toInt64).toInt32))])) rfl (by rw [hml]; rfl) (argsL := [(.int (((q_2.toUInt64 >>> ((32 : Int32) &&& 0x3f).toInt64.toUInt64).toInt64).toInt32))]) (rest := []) (lenOf own_pd1 rfl) rfl (by show 2 * 0 + _ ≤ _; exact Nat.le_of_eq rfl) (hb hby at_29) (fun _ _ => ⟨rfl, e5, (by show k5 + _ ≤ _; rw [y5]; decide), (by show n5 + _ ≤ _; rw [z5]; decide)⟩)
  dsimp only [Pt.U, Pt.locs, Pt.cells, Pt.slots] at X7 l7 y7 z7 st7 hQ7
  have y7 : k7 = 0 := own_addeq y7 (congrArg (fun q => q) y5) rfl
  have z7 : n7 = 0 := own_addeq z7 (congrArg (fun q => q) z5) rfl
  obtain ⟨r8, rfl, N7q, hr_r8, e7⟩ := hQ7
  have N7 : Fr n0 L7 := by rw [l7]; exact Fr.app N5 N7q
  refine own_go (fun _ k => st7 _ k) ?_
  show own_Go _ _ _ _ T7 (mkF m 32 #[.val (.long q_1), .second, .val (.long q_2), .second, .val (.long q_3), .second, .val (.long q_4), .second, .val (.int r2), .val (.int r4), .val (.int r6), .unset, .unset, .unset, .unset, .unset, .unset, .unset, .unset, .unset, .unset, .unset, .unset, .unset, .unset, .unset, .unset, .unset, .unset] [(.int r8)])
  refine own_go (fun _ k => XS.istore X7.here hx rfl (hb hby at_32) rfl (l' := #[.val (.long q_1), .second, .val (.long q_2), .second, .val (.long q_3), .second, .val (.long q_4), .second, .val (.int r2), .val (.int r4), .val (.int r6), .val (.int r8), .unset, .unset, .unset, .unset, .unset, .unset, .unset, .unset, .unset, .unset, .unset, .unset, .unset, .unset, .unset, .unset, .unset]) rfl k) ?_
  show own_Go _ _ _ _ T7 (mkF m 34 #[.val (.long q_1), .second, .val (.long q_2), .second, .val (.long q_3), .second, .val (.long q_4), .second, .val (.int r2), .val (.int r4), .val (.int r6), .val (.int r8), .unset, .unset, .unset, .unset, .unset, .unset, .unset, .unset, .unset, .unset, .unset, .unset, .unset, .unset, .unset, .unset, .unset] [])
  refine own_go (fun _ k => XS.lload X7.here hx rfl (hb hby at_34) rfl k) ?_
  show own_Go _ _ _ _ T7 (mkF m 36 #[.val (.long q_1), .second, .val (.long q_2), .second, .val (.long q_3), .second, .val (.long q_4), .second, .val (.int r2), .val (.int r4), .val (.int r6), .val (.int r8), .unset, .unset, .unset, .unset, .unset, .unset, .unset, .unset, .unset, .unset, .unset, .unset, .unset, .unset, .unset, .unset, .unset] [(.long q_3)])
  refine own_go (fun _ k => XS.l2i X7.here hx rfl (hb hby at_36) rfl k) ?_
  show own_Go _ _ _ _ T7 (mkF m 37 #[.val (.long q_1), .second, .val (.long q_2), .second, .val (.long q_3), .second, .val (.long q_4), .second, .val (.int r2), .val (.int r4), .val (.int r6), .val (.int r8), .unset, .unset, .unset, .unset, .unset, .unset, .unset, .unset, .unset, .unset, .unset, .unset, .unset, .unset, .unset, .unset, .unset] [(.int (q_3.toInt32))])
  obtain ⟨_, _, ⟨T9, L9, k9, n9⟩, -, X9, ⟨Lc9, hQ9, l9, y9, z9⟩, st9⟩ := Jvm.LawKit.callS X7 hx (y := (⟨"com/example/ratebook/ratebook/CellRangeOverlapsPinLaw", "row", "(I)I"⟩ : MethodName)) hown (mvT hZ (hw _ (List.mem_of_getElem? (i := 0) rfl))) (mvT hZ (hw _ (List.mem_of_getElem? (i := 1) rfl))) (mvT hZ (hw _ (List.mem_of_getElem? (i := 2) rfl))) (mvT hZ (hw _ (List.mem_of_getElem? (i := 3) rfl))) (by decide) (backOf (W := 0) (own_rm1 l Z a0 hw [] (q_3.toInt32)  h0 n0 (by omega) ) hZ (hw _ (List.mem_of_getElem? (i := 3) rfl)) (hw _ (List.mem_of_getElem? (i := 2) rfl)) (by decide) (by decide)) (g := (mkF m 37 #[.val (.long q_1), .second, .val (.long q_2), .second, .val (.long q_3), .second, .val (.long q_4), .second, .val (.int r2), .val (.int r4), .val (.int r6), .val (.int r8), .unset, .unset, .unset, .unset, .unset, .unset, .unset, .unset, .unset, .unset, .unset, .unset, .unset, .unset, .unset, .unset, .unset] [(.int (q_3.toInt32))])) rfl (by rw [hml]; rfl) (argsL := [(.int (q_3.toInt32))]) (rest := []) (lenOf own_pd1 rfl) rfl (by show 2 * 0 + _ ≤ _; exact Nat.le_of_eq rfl) (hb hby at_37) (fun _ _ => ⟨rfl, e7, (by show k7 + _ ≤ _; rw [y7]; decide), (by show n7 + _ ≤ _; rw [z7]; decide)⟩)
  dsimp only [Pt.U, Pt.locs, Pt.cells, Pt.slots] at X9 l9 y9 z9 st9 hQ9
  have y9 : k9 = 0 := own_addeq y9 (congrArg (fun q => q) y7) rfl
  have z9 : n9 = 0 := own_addeq z9 (congrArg (fun q => q) z7) rfl
  obtain ⟨r10, rfl, N9q, hr_r10, e9⟩ := hQ9
  have N9 : Fr n0 L9 := by rw [l9]; exact Fr.app N7 N9q
  refine own_go (fun _ k => st9 _ k) ?_
  show own_Go _ _ _ _ T9 (mkF m 40 #[.val (.long q_1), .second, .val (.long q_2), .second, .val (.long q_3), .second, .val (.long q_4), .second, .val (.int r2), .val (.int r4), .val (.int r6), .val (.int r8), .unset, .unset, .unset, .unset, .unset, .unset, .unset, .unset, .unset, .unset, .unset, .unset, .unset, .unset, .unset, .unset, .unset] [(.int r10)])
  refine own_go (fun _ k => XS.istore X9.here hx rfl (hb hby at_40) rfl (l' := #[.val (.long q_1), .second, .val (.long q_2), .second, .val (.long q_3), .second, .val (.long q_4), .second, .val (.int r2), .val (.int r4), .val (.int r6), .val (.int r8), .val (.int r10), .unset, .unset, .unset, .unset, .unset, .unset, .unset, .unset, .unset, .unset, .unset, .unset, .unset, .unset, .unset, .unset]) rfl k) ?_
  show own_Go _ _ _ _ T9 (mkF m 42 #[.val (.long q_1), .second, .val (.long q_2), .second, .val (.long q_3), .second, .val (.long q_4), .second, .val (.int r2), .val (.int r4), .val (.int r6), .val (.int r8), .val (.int r10), .unset, .unset, .unset, .unset, .unset, .unset, .unset, .unset, .unset, .unset, .unset, .unset, .unset, .unset, .unset, .unset] [])
  refine own_go (fun _ k => XS.lload X9.here hx rfl (hb hby at_42) rfl k) ?_
  show own_Go _ _ _ _ T9 (mkF m 44 #[.val (.long q_1), .second, .val (.long q_2), .second, .val (.long q_3), .second, .val (.long q_4), .second, .val (.int r2), .val (.int r4), .val (.int r6), .val (.int r8), .val (.int r10), .unset, .unset, .unset, .unset, .unset, .unset, .unset, .unset, .unset, .unset, .unset, .unset, .unset, .unset, .unset, .unset] [(.long q_3)])
  refine own_go (fun _ k => XS.bipush X9.here hx rfl (hb hby at_44) k) ?_
  show own_Go _ _ _ _ T9 (mkF m 46 #[.val (.long q_1), .second, .val (.long q_2), .second, .val (.long q_3), .second, .val (.long q_4), .second, .val (.int r2), .val (.int r4), .val (.int r6), .val (.int r8), .val (.int r10), .unset, .unset, .unset, .unset, .unset, .unset, .unset, .unset, .unset, .unset, .unset, .unset, .unset, .unset, .unset, .unset] [(.int (32 : Int32)), (.long q_3)])
  refine own_go (fun _ k => XS.lushr X9.here hx rfl (hb hby at_46) rfl k) ?_
  show own_Go _ _ _ _ T9 (mkF m 47 #[.val (.long q_1), .second, .val (.long q_2), .second, .val (.long q_3), .second, .val (.long q_4), .second, .val (.int r2), .val (.int r4), .val (.int r6), .val (.int r8), .val (.int r10), .unset, .unset, .unset, .unset, .unset, .unset, .unset, .unset, .unset, .unset, .unset, .unset, .unset, .unset, .unset, .unset] [(.long ((q_3.toUInt64 >>> ((32 : Int32) &&& 0x3f).toInt64.toUInt64).toInt64))])
  refine own_go (fun _ k => XS.l2i X9.here hx rfl (hb hby at_47) rfl k) ?_
  show own_Go _ _ _ _ T9 (mkF m 48 #[.val (.long q_1), .second, .val (.long q_2), .second, .val (.long q_3), .second, .val (.long q_4), .second, .val (.int r2), .val (.int r4), .val (.int r6), .val (.int r8), .val (.int r10), .unset, .unset, .unset, .unset, .unset, .unset, .unset, .unset, .unset, .unset, .unset, .unset, .unset, .unset, .unset, .unset] [(.int (((q_3.toUInt64 >>> ((32 : Int32) &&& 0x3f).toInt64.toUInt64).toInt64).toInt32))])
  obtain ⟨_, _, ⟨T11, L11, k11, n11⟩, -, X11, ⟨Lc11, hQ11, l11, y11, z11⟩, st11⟩ := Jvm.LawKit.callS X9 hx (y := (⟨"com/example/ratebook/ratebook/CellRangeOverlapsPinLaw", "row", "(I)I"⟩ : MethodName)) hown (mvT hZ (hw _ (List.mem_of_getElem? (i := 0) rfl))) (mvT hZ (hw _ (List.mem_of_getElem? (i := 1) rfl))) (mvT hZ (hw _ (List.mem_of_getElem? (i := 2) rfl))) (mvT hZ (hw _ (List.mem_of_getElem? (i := 3) rfl))) (by decide) (backOf (W := 0) (own_rm1 l Z a0 hw [] (((q_3.toUInt64 >>> ((32 : Int32) &&& 0x3f).toInt64.toUInt64).toInt64).toInt32)  h0 n0 (by omega) ) hZ (hw _ (List.mem_of_getElem? (i := 3) rfl)) (hw _ (List.mem_of_getElem? (i := 2) rfl)) (by decide) (by decide)) (g := (mkF m 48 #[.val (.long q_1), .second, .val (.long q_2), .second, .val (.long q_3), .second, .val (.long q_4), .second, .val (.int r2), .val (.int r4), .val (.int r6), .val (.int r8), .val (.int r10), .unset, .unset, .unset, .unset, .unset, .unset, .unset, .unset, .unset, .unset, .unset, .unset, .unset, .unset, .unset, .unset] [(.int (((q_3.toUInt64 >>> ((32 : Int32) &&& 0x3f).toInt64.toUInt64).toInt64).toInt32))])) rfl (by rw [hml]; rfl) (argsL := [(.int (((q_3.toUInt64 >>> ((32 : Int32) &&& 0x3f).toInt64.toUInt64).toInt64).toInt32))]) (rest := []) (lenOf own_pd1 rfl) rfl (by show 2 * 0 + _ ≤ _; exact Nat.le_of_eq rfl) (hb hby at_48) (fun _ _ => ⟨rfl, e9, (by show k9 + _ ≤ _; rw [y9]; decide), (by show n9 + _ ≤ _; rw [z9]; decide)⟩)
  dsimp only [Pt.U, Pt.locs, Pt.cells, Pt.slots] at X11 l11 y11 z11 st11 hQ11
  have y11 : k11 = 0 := own_addeq y11 (congrArg (fun q => q) y9) rfl
  have z11 : n11 = 0 := own_addeq z11 (congrArg (fun q => q) z9) rfl
  obtain ⟨r12, rfl, N11q, hr_r12, e11⟩ := hQ11
  have N11 : Fr n0 L11 := by rw [l11]; exact Fr.app N9 N11q
  refine own_go (fun _ k => st11 _ k) ?_
  show own_Go _ _ _ _ T11 (mkF m 51 #[.val (.long q_1), .second, .val (.long q_2), .second, .val (.long q_3), .second, .val (.long q_4), .second, .val (.int r2), .val (.int r4), .val (.int r6), .val (.int r8), .val (.int r10), .unset, .unset, .unset, .unset, .unset, .unset, .unset, .unset, .unset, .unset, .unset, .unset, .unset, .unset, .unset, .unset] [(.int r12)])
  refine own_go (fun _ k => XS.istore X11.here hx rfl (hb hby at_51) rfl (l' := #[.val (.long q_1), .second, .val (.long q_2), .second, .val (.long q_3), .second, .val (.long q_4), .second, .val (.int r2), .val (.int r4), .val (.int r6), .val (.int r8), .val (.int r10), .val (.int r12), .unset, .unset, .unset, .unset, .unset, .unset, .unset, .unset, .unset, .unset, .unset, .unset, .unset, .unset, .unset]) rfl k) ?_
  show own_Go _ _ _ _ T11 (mkF m 53 #[.val (.long q_1), .second, .val (.long q_2), .second, .val (.long q_3), .second, .val (.long q_4), .second, .val (.int r2), .val (.int r4), .val (.int r6), .val (.int r8), .val (.int r10), .val (.int r12), .unset, .unset, .unset, .unset, .unset, .unset, .unset, .unset, .unset, .unset, .unset, .unset, .unset, .unset, .unset] [])
  refine own_go (fun _ k => XS.lload X11.here hx rfl (hb hby at_53) rfl k) ?_
  show own_Go _ _ _ _ T11 (mkF m 55 #[.val (.long q_1), .second, .val (.long q_2), .second, .val (.long q_3), .second, .val (.long q_4), .second, .val (.int r2), .val (.int r4), .val (.int r6), .val (.int r8), .val (.int r10), .val (.int r12), .unset, .unset, .unset, .unset, .unset, .unset, .unset, .unset, .unset, .unset, .unset, .unset, .unset, .unset, .unset] [(.long q_4)])
  refine own_go (fun _ k => XS.l2i X11.here hx rfl (hb hby at_55) rfl k) ?_
  show own_Go _ _ _ _ T11 (mkF m 56 #[.val (.long q_1), .second, .val (.long q_2), .second, .val (.long q_3), .second, .val (.long q_4), .second, .val (.int r2), .val (.int r4), .val (.int r6), .val (.int r8), .val (.int r10), .val (.int r12), .unset, .unset, .unset, .unset, .unset, .unset, .unset, .unset, .unset, .unset, .unset, .unset, .unset, .unset, .unset] [(.int (q_4.toInt32))])
  obtain ⟨_, _, ⟨T13, L13, k13, n13⟩, -, X13, ⟨Lc13, hQ13, l13, y13, z13⟩, st13⟩ := Jvm.LawKit.callS X11 hx (y := (⟨"com/example/ratebook/ratebook/CellRangeOverlapsPinLaw", "col", "(I)I"⟩ : MethodName)) hown (mvT hZ (hw _ (List.mem_of_getElem? (i := 6) rfl))) (mvT hZ (hw _ (List.mem_of_getElem? (i := 7) rfl))) (mvT hZ (hw _ (List.mem_of_getElem? (i := 2) rfl))) (mvT hZ (hw _ (List.mem_of_getElem? (i := 8) rfl))) (by decide) (backOf (W := 0) (own_rm2 l Z a0 hw [] (q_4.toInt32)  h0 n0 (by omega) ) hZ (hw _ (List.mem_of_getElem? (i := 8) rfl)) (hw _ (List.mem_of_getElem? (i := 2) rfl)) (by decide) (by decide)) (g := (mkF m 56 #[.val (.long q_1), .second, .val (.long q_2), .second, .val (.long q_3), .second, .val (.long q_4), .second, .val (.int r2), .val (.int r4), .val (.int r6), .val (.int r8), .val (.int r10), .val (.int r12), .unset, .unset, .unset, .unset, .unset, .unset, .unset, .unset, .unset, .unset, .unset, .unset, .unset, .unset, .unset] [(.int (q_4.toInt32))])) rfl (by rw [hml]; rfl) (argsL := [(.int (q_4.toInt32))]) (rest := []) (lenOf own_pd1 rfl) rfl (by show 2 * 0 + _ ≤ _; exact Nat.le_of_eq rfl) (hb hby at_56) (fun _ _ => ⟨rfl, e11, (by show k11 + _ ≤ _; rw [y11]; decide), (by show n11 + _ ≤ _; rw [z11]; decide)⟩)
  dsimp only [Pt.U, Pt.locs, Pt.cells, Pt.slots] at X13 l13 y13 z13 st13 hQ13
  have y13 : k13 = 0 := own_addeq y13 (congrArg (fun q => q) y11) rfl
  have z13 : n13 = 0 := own_addeq z13 (congrArg (fun q => q) z11) rfl
  obtain ⟨r14, rfl, N13q, hr_r14, e13⟩ := hQ13
  have N13 : Fr n0 L13 := by rw [l13]; exact Fr.app N11 N13q
  refine own_go (fun _ k => st13 _ k) ?_
  show own_Go _ _ _ _ T13 (mkF m 59 #[.val (.long q_1), .second, .val (.long q_2), .second, .val (.long q_3), .second, .val (.long q_4), .second, .val (.int r2), .val (.int r4), .val (.int r6), .val (.int r8), .val (.int r10), .val (.int r12), .unset, .unset, .unset, .unset, .unset, .unset, .unset, .unset, .unset, .unset, .unset, .unset, .unset, .unset, .unset] [(.int r14)])
  refine own_go (fun _ k => XS.istore X13.here hx rfl (hb hby at_59) rfl (l' := #[.val (.long q_1), .second, .val (.long q_2), .second, .val (.long q_3), .second, .val (.long q_4), .second, .val (.int r2), .val (.int r4), .val (.int r6), .val (.int r8), .val (.int r10), .val (.int r12), .val (.int r14), .unset, .unset, .unset, .unset, .unset, .unset, .unset, .unset, .unset, .unset, .unset, .unset, .unset, .unset]) rfl k) ?_
  show own_Go _ _ _ _ T13 (mkF m 61 #[.val (.long q_1), .second, .val (.long q_2), .second, .val (.long q_3), .second, .val (.long q_4), .second, .val (.int r2), .val (.int r4), .val (.int r6), .val (.int r8), .val (.int r10), .val (.int r12), .val (.int r14), .unset, .unset, .unset, .unset, .unset, .unset, .unset, .unset, .unset, .unset, .unset, .unset, .unset, .unset] [])
  refine own_go (fun _ k => XS.lload X13.here hx rfl (hb hby at_61) rfl k) ?_
  show own_Go _ _ _ _ T13 (mkF m 63 #[.val (.long q_1), .second, .val (.long q_2), .second, .val (.long q_3), .second, .val (.long q_4), .second, .val (.int r2), .val (.int r4), .val (.int r6), .val (.int r8), .val (.int r10), .val (.int r12), .val (.int r14), .unset, .unset, .unset, .unset, .unset, .unset, .unset, .unset, .unset, .unset, .unset, .unset, .unset, .unset] [(.long q_4)])
  refine own_go (fun _ k => XS.bipush X13.here hx rfl (hb hby at_63) k) ?_
  show own_Go _ _ _ _ T13 (mkF m 65 #[.val (.long q_1), .second, .val (.long q_2), .second, .val (.long q_3), .second, .val (.long q_4), .second, .val (.int r2), .val (.int r4), .val (.int r6), .val (.int r8), .val (.int r10), .val (.int r12), .val (.int r14), .unset, .unset, .unset, .unset, .unset, .unset, .unset, .unset, .unset, .unset, .unset, .unset, .unset, .unset] [(.int (32 : Int32)), (.long q_4)])
  refine own_go (fun _ k => XS.lushr X13.here hx rfl (hb hby at_65) rfl k) ?_
  show own_Go _ _ _ _ T13 (mkF m 66 #[.val (.long q_1), .second, .val (.long q_2), .second, .val (.long q_3), .second, .val (.long q_4), .second, .val (.int r2), .val (.int r4), .val (.int r6), .val (.int r8), .val (.int r10), .val (.int r12), .val (.int r14), .unset, .unset, .unset, .unset, .unset, .unset, .unset, .unset, .unset, .unset, .unset, .unset, .unset, .unset] [(.long ((q_4.toUInt64 >>> ((32 : Int32) &&& 0x3f).toInt64.toUInt64).toInt64))])
  refine own_go (fun _ k => XS.l2i X13.here hx rfl (hb hby at_66) rfl k) ?_
  show own_Go _ _ _ _ T13 (mkF m 67 #[.val (.long q_1), .second, .val (.long q_2), .second, .val (.long q_3), .second, .val (.long q_4), .second, .val (.int r2), .val (.int r4), .val (.int r6), .val (.int r8), .val (.int r10), .val (.int r12), .val (.int r14), .unset, .unset, .unset, .unset, .unset, .unset, .unset, .unset, .unset, .unset, .unset, .unset, .unset, .unset] [(.int (((q_4.toUInt64 >>> ((32 : Int32) &&& 0x3f).toInt64.toUInt64).toInt64).toInt32))])
  obtain ⟨_, _, ⟨T15, L15, k15, n15⟩, -, X15, ⟨Lc15, hQ15, l15, y15, z15⟩, st15⟩ := Jvm.LawKit.callS X13 hx (y := (⟨"com/example/ratebook/ratebook/CellRangeOverlapsPinLaw", "col", "(I)I"⟩ : MethodName)) hown (mvT hZ (hw _ (List.mem_of_getElem? (i := 6) rfl))) (mvT hZ (hw _ (List.mem_of_getElem? (i := 7) rfl))) (mvT hZ (hw _ (List.mem_of_getElem? (i := 2) rfl))) (mvT hZ (hw _ (List.mem_of_getElem? (i := 8) rfl))) (by decide) (backOf (W := 0) (own_rm2 l Z a0 hw [] (((q_4.toUInt64 >>> ((32 : Int32) &&& 0x3f).toInt64.toUInt64).toInt64).toInt32)  h0 n0 (by omega) ) hZ (hw _ (List.mem_of_getElem? (i := 8) rfl)) (hw _ (List.mem_of_getElem? (i := 2) rfl)) (by decide) (by decide)) (g := (mkF m 67 #[.val (.long q_1), .second, .val (.long q_2), .second, .val (.long q_3), .second, .val (.long q_4), .second, .val (.int r2), .val (.int r4), .val (.int r6), .val (.int r8), .val (.int r10), .val (.int r12), .val (.int r14), .unset, .unset, .unset, .unset, .unset, .unset, .unset, .unset, .unset, .unset, .unset, .unset, .unset, .unset] [(.int (((q_4.toUInt64 >>> ((32 : Int32) &&& 0x3f).toInt64.toUInt64).toInt64).toInt32))])) rfl (by rw [hml]; rfl) (argsL := [(.int (((q_4.toUInt64 >>> ((32 : Int32) &&& 0x3f).toInt64.toUInt64).toInt64).toInt32))]) (rest := []) (lenOf own_pd1 rfl) rfl (by show 2 * 0 + _ ≤ _; exact Nat.le_of_eq rfl) (hb hby at_67) (fun _ _ => ⟨rfl, e13, (by show k13 + _ ≤ _; rw [y13]; decide), (by show n13 + _ ≤ _; rw [z13]; decide)⟩)
  dsimp only [Pt.U, Pt.locs, Pt.cells, Pt.slots] at X15 l15 y15 z15 st15 hQ15
  have y15 : k15 = 0 := own_addeq y15 (congrArg (fun q => q) y13) rfl
  have z15 : n15 = 0 := own_addeq z15 (congrArg (fun q => q) z13) rfl
  obtain ⟨r16, rfl, N15q, hr_r16, e15⟩ := hQ15
  have N15 : Fr n0 L15 := by rw [l15]; exact Fr.app N13 N15q
  refine own_go (fun _ k => st15 _ k) ?_
  show own_Go _ _ _ _ T15 (mkF m 70 #[.val (.long q_1), .second, .val (.long q_2), .second, .val (.long q_3), .second, .val (.long q_4), .second, .val (.int r2), .val (.int r4), .val (.int r6), .val (.int r8), .val (.int r10), .val (.int r12), .val (.int r14), .unset, .unset, .unset, .unset, .unset, .unset, .unset, .unset, .unset, .unset, .unset, .unset, .unset, .unset] [(.int r16)])
  refine own_go (fun _ k => XS.istore X15.here hx rfl (hb hby at_70) rfl (l' := #[.val (.long q_1), .second, .val (.long q_2), .second, .val (.long q_3), .second, .val (.long q_4), .second, .val (.int r2), .val (.int r4), .val (.int r6), .val (.int r8), .val (.int r10), .val (.int r12), .val (.int r14), .val (.int r16), .unset, .unset, .unset, .unset, .unset, .unset, .unset, .unset, .unset, .unset, .unset, .unset, .unset]) rfl k) ?_
  show own_Go _ _ _ _ T15 (mkF m 72 #[.val (.long q_1), .second, .val (.long q_2), .second, .val (.long q_3), .second, .val (.long q_4), .second, .val (.int r2), .val (.int r4), .val (.int r6), .val (.int r8), .val (.int r10), .val (.int r12), .val (.int r14), .val (.int r16), .unset, .unset, .unset, .unset, .unset, .unset, .unset, .unset, .unset, .unset, .unset, .unset, .unset] [])
  refine own_go (fun _ k => XS.iload X15.here hx rfl (hb hby at_72) rfl k) ?_
  show own_Go _ _ _ _ T15 (mkF m 74 #[.val (.long q_1), .second, .val (.long q_2), .second, .val (.long q_3), .second, .val (.long q_4), .second, .val (.int r2), .val (.int r4), .val (.int r6), .val (.int r8), .val (.int r10), .val (.int r12), .val (.int r14), .val (.int r16), .unset, .unset, .unset, .unset, .unset, .unset, .unset, .unset, .unset, .unset, .unset, .unset, .unset] [(.int r2)])
  refine own_go (fun _ k => XS.iload X15.here hx rfl (hb hby at_74) rfl k) ?_
  show own_Go _ _ _ _ T15 (mkF m 76 #[.val (.long q_1), .second, .val (.long q_2), .second, .val (.long q_3), .second, .val (.long q_4), .second, .val (.int r2), .val (.int r4), .val (.int r6), .val (.int r8), .val (.int r10), .val (.int r12), .val (.int r14), .val (.int r16), .unset, .unset, .unset, .unset, .unset, .unset, .unset, .unset, .unset, .unset, .unset, .unset, .unset] [(.int r4), (.int r2)])
  obtain ⟨_, _, ⟨T17, L17, k17, n17⟩, -, X17, ⟨Lc17, hQ17, l17, y17, z17⟩, st17⟩ := Jvm.LawKit.callS X15 hx (y := (⟨"java/lang/Math", "min", "(II)I"⟩ : MethodName)) hown (mvT hZ (hw _ (List.mem_of_getElem? (i := 9) rfl))) (mvT hZ (hw _ (List.mem_of_getElem? (i := 10) rfl))) (mvT hZ (hw _ (List.mem_of_getElem? (i := 11) rfl))) (mvT hZ (hw _ (List.mem_of_getElem? (i := 12) rfl))) (by decide) (backOf (W := 0) (own_rm3 l Z a0 hw [] r2 r4  h0 n0 (by omega) ) hZ (hw _ (List.mem_of_getElem? (i := 12) rfl)) (hw _ (List.mem_of_getElem? (i := 11) rfl)) (by decide) (by decide)) (g := (mkF m 76 #[.val (.long q_1), .second, .val (.long q_2), .second, .val (.long q_3), .second, .val (.long q_4), .second, .val (.int r2), .val (.int r4), .val (.int r6), .val (.int r8), .val (.int r10), .val (.int r12), .val (.int r14), .val (.int r16), .unset, .unset, .unset, .unset, .unset, .unset, .unset, .unset, .unset, .unset, .unset, .unset, .unset] [(.int r4), (.int r2)])) rfl (by rw [hml]; rfl) (argsL := [(.int r2), (.int r4)]) (rest := []) (lenOf own_pd2 rfl) rfl (by show 2 * 0 + _ ≤ _; exact Nat.le_of_eq rfl) (hb hby at_76) (fun _ _ => ⟨rfl, e15, (by show k15 + _ ≤ _; rw [y15]; decide), (by show n15 + _ ≤ _; rw [z15]; decide)⟩)
  dsimp only [Pt.U, Pt.locs, Pt.cells, Pt.slots] at X17 l17 y17 z17 st17 hQ17
  have y17 : k17 = 0 := own_addeq y17 (congrArg (fun q => q) y15) rfl
  have z17 : n17 = 0 := own_addeq z17 (congrArg (fun q => q) z15) rfl
  obtain ⟨r18, rfl, N17q, hr_r18, e17⟩ := hQ17
  have N17 : Fr n0 L17 := by rw [l17]; exact Fr.app N15 N17q
  refine own_go (fun _ k => st17 _ k) ?_
  show own_Go _ _ _ _ T17 (mkF m 79 #[.val (.long q_1), .second, .val (.long q_2), .second, .val (.long q_3), .second, .val (.long q_4), .second, .val (.int r2), .val (.int r4), .val (.int r6), .val (.int r8), .val (.int r10), .val (.int r12), .val (.int r14), .val (.int r16), .unset, .unset, .unset, .unset, .unset, .unset, .unset, .unset, .unset, .unset, .unset, .unset, .unset] [(.int r18)])
  refine own_go (fun _ k => XS.istore X17.here hx rfl (hb hby at_79) rfl (l' := #[.val (.long q_1), .second, .val (.long q_2), .second, .val (.long q_3), .second, .val (.long q_4), .second, .val (.int r2), .val (.int r4), .val (.int r6), .val (.int r8), .val (.int r10), .val (.int r12), .val (.int r14), .val (.int r16), .val (.int r18), .unset, .unset, .unset, .unset, .unset, .unset, .unset, .unset, .unset, .unset, .unset, .unset]) rfl k) ?_
  show own_Go _ _ _ _ T17 (mkF m 81 #[.val (.long q_1), .second, .val (.long q_2), .second, .val (.long q_3), .second, .val (.long q_4), .second, .val (.int r2), .val (.int r4), .val (.int r6), .val (.int r8), .val (.int r10), .val (.int r12), .val (.int r14), .val (.int r16), .val (.int r18), .unset, .unset, .unset, .unset, .unset, .unset, .unset, .unset, .unset, .unset, .unset, .unset] [])
  refine own_go (fun _ k => XS.iload X17.here hx rfl (hb hby at_81) rfl k) ?_
  show own_Go _ _ _ _ T17 (mkF m 83 #[.val (.long q_1), .second, .val (.long q_2), .second, .val (.long q_3), .second, .val (.long q_4), .second, .val (.int r2), .val (.int r4), .val (.int r6), .val (.int r8), .val (.int r10), .val (.int r12), .val (.int r14), .val (.int r16), .val (.int r18), .unset, .unset, .unset, .unset, .unset, .unset, .unset, .unset, .unset, .unset, .unset, .unset] [(.int r2)])
  refine own_go (fun _ k => XS.iload X17.here hx rfl (hb hby at_83) rfl k) ?_
  show own_Go _ _ _ _ T17 (mkF m 85 #[.val (.long q_1), .second, .val (.long q_2), .second, .val (.long q_3), .second, .val (.long q_4), .second, .val (.int r2), .val (.int r4), .val (.int r6), .val (.int r8), .val (.int r10), .val (.int r12), .val (.int r14), .val (.int r16), .val (.int r18), .unset, .unset, .unset, .unset, .unset, .unset, .unset, .unset, .unset, .unset, .unset, .unset] [(.int r4), (.int r2)])
  obtain ⟨_, _, ⟨T19, L19, k19, n19⟩, -, X19, ⟨Lc19, hQ19, l19, y19, z19⟩, st19⟩ := Jvm.LawKit.callS X17 hx (y := (⟨"java/lang/Math", "max", "(II)I"⟩ : MethodName)) hown (mvT hZ (hw _ (List.mem_of_getElem? (i := 13) rfl))) (mvT hZ (hw _ (List.mem_of_getElem? (i := 14) rfl))) (mvT hZ (hw _ (List.mem_of_getElem? (i := 11) rfl))) (mvT hZ (hw _ (List.mem_of_getElem? (i := 15) rfl))) (by decide) (backOf (W := 0) (own_rm4 l Z a0 hw [] r2 r4  h0 n0 (by omega) ) hZ (hw _ (List.mem_of_getElem? (i := 15) rfl)) (hw _ (List.mem_of_getElem? (i := 11) rfl)) (by decide) (by decide)) (g := (mkF m 85 #[.val (.long q_1), .second, .val (.long q_2), .second, .val (.long q_3), .second, .val (.long q_4), .second, .val (.int r2), .val (.int r4), .val (.int r6), .val (.int r8), .val (.int r10), .val (.int r12), .val (.int r14), .val (.int r16), .val (.int r18), .unset, .unset, .unset, .unset, .unset, .unset, .unset, .unset, .unset, .unset, .unset, .unset] [(.int r4), (.int r2)])) rfl (by rw [hml]; rfl) (argsL := [(.int r2), (.int r4)]) (rest := []) (lenOf own_pd2 rfl) rfl (by show 2 * 0 + _ ≤ _; exact Nat.le_of_eq rfl) (hb hby at_85) (fun _ _ => ⟨rfl, e17, (by show k17 + _ ≤ _; rw [y17]; decide), (by show n17 + _ ≤ _; rw [z17]; decide)⟩)
  dsimp only [Pt.U, Pt.locs, Pt.cells, Pt.slots] at X19 l19 y19 z19 st19 hQ19
  have y19 : k19 = 0 := own_addeq y19 (congrArg (fun q => q) y17) rfl
  have z19 : n19 = 0 := own_addeq z19 (congrArg (fun q => q) z17) rfl
  obtain ⟨r20, rfl, N19q, hr_r20, e19⟩ := hQ19
  have N19 : Fr n0 L19 := by rw [l19]; exact Fr.app N17 N19q
  refine own_go (fun _ k => st19 _ k) ?_
  show own_Go _ _ _ _ T19 (mkF m 88 #[.val (.long q_1), .second, .val (.long q_2), .second, .val (.long q_3), .second, .val (.long q_4), .second, .val (.int r2), .val (.int r4), .val (.int r6), .val (.int r8), .val (.int r10), .val (.int r12), .val (.int r14), .val (.int r16), .val (.int r18), .unset, .unset, .unset, .unset, .unset, .unset, .unset, .unset, .unset, .unset, .unset, .unset] [(.int r20)])
  refine own_go (fun _ k => XS.istore X19.here hx rfl (hb hby at_88) rfl (l' := #[.val (.long q_1), .second, .val (.long q_2), .second, .val (.long q_3), .second, .val (.long q_4), .second, .val (.int r2), .val (.int r4), .val (.int r6), .val (.int r8), .val (.int r10), .val (.int r12), .val (.int r14), .val (.int r16), .val (.int r18), .val (.int r20), .unset, .unset, .unset, .unset, .unset, .unset, .unset, .unset, .unset, .unset, .unset]) rfl k) ?_
  show own_Go _ _ _ _ T19 (mkF m 90 #[.val (.long q_1), .second, .val (.long q_2), .second, .val (.long q_3), .second, .val (.long q_4), .second, .val (.int r2), .val (.int r4), .val (.int r6), .val (.int r8), .val (.int r10), .val (.int r12), .val (.int r14), .val (.int r16), .val (.int r18), .val (.int r20), .unset, .unset, .unset, .unset, .unset, .unset, .unset, .unset, .unset, .unset, .unset] [])
  refine own_go (fun _ k => XS.iload X19.here hx rfl (hb hby at_90) rfl k) ?_
  show own_Go _ _ _ _ T19 (mkF m 92 #[.val (.long q_1), .second, .val (.long q_2), .second, .val (.long q_3), .second, .val (.long q_4), .second, .val (.int r2), .val (.int r4), .val (.int r6), .val (.int r8), .val (.int r10), .val (.int r12), .val (.int r14), .val (.int r16), .val (.int r18), .val (.int r20), .unset, .unset, .unset, .unset, .unset, .unset, .unset, .unset, .unset, .unset, .unset] [(.int r6)])
  refine own_go (fun _ k => XS.iload X19.here hx rfl (hb hby at_92) rfl k) ?_
  show own_Go _ _ _ _ T19 (mkF m 94 #[.val (.long q_1), .second, .val (.long q_2), .second, .val (.long q_3), .second, .val (.long q_4), .second, .val (.int r2), .val (.int r4), .val (.int r6), .val (.int r8), .val (.int r10), .val (.int r12), .val (.int r14), .val (.int r16), .val (.int r18), .val (.int r20), .unset, .unset, .unset, .unset, .unset, .unset, .unset, .unset, .unset, .unset, .unset] [(.int r8), (.int r6)])
  obtain ⟨_, _, ⟨T21, L21, k21, n21⟩, -, X21, ⟨Lc21, hQ21, l21, y21, z21⟩, st21⟩ := Jvm.LawKit.callS X19 hx (y := (⟨"java/lang/Math", "min", "(II)I"⟩ : MethodName)) hown (mvT hZ (hw _ (List.mem_of_getElem? (i := 9) rfl))) (mvT hZ (hw _ (List.mem_of_getElem? (i := 10) rfl))) (mvT hZ (hw _ (List.mem_of_getElem? (i := 11) rfl))) (mvT hZ (hw _ (List.mem_of_getElem? (i := 12) rfl))) (by decide) (backOf (W := 0) (own_rm3 l Z a0 hw [] r6 r8  h0 n0 (by omega) ) hZ (hw _ (List.mem_of_getElem? (i := 12) rfl)) (hw _ (List.mem_of_getElem? (i := 11) rfl)) (by decide) (by decide)) (g := (mkF m 94 #[.val (.long q_1), .second, .val (.long q_2), .second, .val (.long q_3), .second, .val (.long q_4), .second, .val (.int r2), .val (.int r4), .val (.int r6), .val (.int r8), .val (.int r10), .val (.int r12), .val (.int r14), .val (.int r16), .val (.int r18), .val (.int r20), .unset, .unset, .unset, .unset, .unset, .unset, .unset, .unset, .unset, .unset, .unset] [(.int r8), (.int r6)])) rfl (by rw [hml]; rfl) (argsL := [(.int r6), (.int r8)]) (rest := []) (lenOf own_pd2 rfl) rfl (by show 2 * 0 + _ ≤ _; exact Nat.le_of_eq rfl) (hb hby at_94) (fun _ _ => ⟨rfl, e19, (by show k19 + _ ≤ _; rw [y19]; decide), (by show n19 + _ ≤ _; rw [z19]; decide)⟩)
  dsimp only [Pt.U, Pt.locs, Pt.cells, Pt.slots] at X21 l21 y21 z21 st21 hQ21
  have y21 : k21 = 0 := own_addeq y21 (congrArg (fun q => q) y19) rfl
  have z21 : n21 = 0 := own_addeq z21 (congrArg (fun q => q) z19) rfl
  obtain ⟨r22, rfl, N21q, hr_r22, e21⟩ := hQ21
  have N21 : Fr n0 L21 := by rw [l21]; exact Fr.app N19 N21q
  refine own_go (fun _ k => st21 _ k) ?_
  show own_Go _ _ _ _ T21 (mkF m 97 #[.val (.long q_1), .second, .val (.long q_2), .second, .val (.long q_3), .second, .val (.long q_4), .second, .val (.int r2), .val (.int r4), .val (.int r6), .val (.int r8), .val (.int r10), .val (.int r12), .val (.int r14), .val (.int r16), .val (.int r18), .val (.int r20), .unset, .unset, .unset, .unset, .unset, .unset, .unset, .unset, .unset, .unset, .unset] [(.int r22)])
  refine own_go (fun _ k => XS.istore X21.here hx rfl (hb hby at_97) rfl (l' := #[.val (.long q_1), .second, .val (.long q_2), .second, .val (.long q_3), .second, .val (.long q_4), .second, .val (.int r2), .val (.int r4), .val (.int r6), .val (.int r8), .val (.int r10), .val (.int r12), .val (.int r14), .val (.int r16), .val (.int r18), .val (.int r20), .val (.int r22), .unset, .unset, .unset, .unset, .unset, .unset, .unset, .unset, .unset, .unset]) rfl k) ?_
  show own_Go _ _ _ _ T21 (mkF m 99 #[.val (.long q_1), .second, .val (.long q_2), .second, .val (.long q_3), .second, .val (.long q_4), .second, .val (.int r2), .val (.int r4), .val (.int r6), .val (.int r8), .val (.int r10), .val (.int r12), .val (.int r14), .val (.int r16), .val (.int r18), .val (.int r20), .val (.int r22), .unset, .unset, .unset, .unset, .unset, .unset, .unset, .unset, .unset, .unset] [])
  refine own_go (fun _ k => XS.iload X21.here hx rfl (hb hby at_99) rfl k) ?_
  show own_Go _ _ _ _ T21 (mkF m 101 #[.val (.long q_1), .second, .val (.long q_2), .second, .val (.long q_3), .second, .val (.long q_4), .second, .val (.int r2), .val (.int r4), .val (.int r6), .val (.int r8), .val (.int r10), .val (.int r12), .val (.int r14), .val (.int r16), .val (.int r18), .val (.int r20), .val (.int r22), .unset, .unset, .unset, .unset, .unset, .unset, .unset, .unset, .unset, .unset] [(.int r6)])
  refine own_go (fun _ k => XS.iload X21.here hx rfl (hb hby at_101) rfl k) ?_
  show own_Go _ _ _ _ T21 (mkF m 103 #[.val (.long q_1), .second, .val (.long q_2), .second, .val (.long q_3), .second, .val (.long q_4), .second, .val (.int r2), .val (.int r4), .val (.int r6), .val (.int r8), .val (.int r10), .val (.int r12), .val (.int r14), .val (.int r16), .val (.int r18), .val (.int r20), .val (.int r22), .unset, .unset, .unset, .unset, .unset, .unset, .unset, .unset, .unset, .unset] [(.int r8), (.int r6)])
  obtain ⟨_, _, ⟨T23, L23, k23, n23⟩, -, X23, ⟨Lc23, hQ23, l23, y23, z23⟩, st23⟩ := Jvm.LawKit.callS X21 hx (y := (⟨"java/lang/Math", "max", "(II)I"⟩ : MethodName)) hown (mvT hZ (hw _ (List.mem_of_getElem? (i := 13) rfl))) (mvT hZ (hw _ (List.mem_of_getElem? (i := 14) rfl))) (mvT hZ (hw _ (List.mem_of_getElem? (i := 11) rfl))) (mvT hZ (hw _ (List.mem_of_getElem? (i := 15) rfl))) (by decide) (backOf (W := 0) (own_rm4 l Z a0 hw [] r6 r8  h0 n0 (by omega) ) hZ (hw _ (List.mem_of_getElem? (i := 15) rfl)) (hw _ (List.mem_of_getElem? (i := 11) rfl)) (by decide) (by decide)) (g := (mkF m 103 #[.val (.long q_1), .second, .val (.long q_2), .second, .val (.long q_3), .second, .val (.long q_4), .second, .val (.int r2), .val (.int r4), .val (.int r6), .val (.int r8), .val (.int r10), .val (.int r12), .val (.int r14), .val (.int r16), .val (.int r18), .val (.int r20), .val (.int r22), .unset, .unset, .unset, .unset, .unset, .unset, .unset, .unset, .unset, .unset] [(.int r8), (.int r6)])) rfl (by rw [hml]; rfl) (argsL := [(.int r6), (.int r8)]) (rest := []) (lenOf own_pd2 rfl) rfl (by show 2 * 0 + _ ≤ _; exact Nat.le_of_eq rfl) (hb hby at_103) (fun _ _ => ⟨rfl, e21, (by show k21 + _ ≤ _; rw [y21]; decide), (by show n21 + _ ≤ _; rw [z21]; decide)⟩)
  dsimp only [Pt.U, Pt.locs, Pt.cells, Pt.slots] at X23 l23 y23 z23 st23 hQ23
  have y23 : k23 = 0 := own_addeq y23 (congrArg (fun q => q) y21) rfl
  have z23 : n23 = 0 := own_addeq z23 (congrArg (fun q => q) z21) rfl
  obtain ⟨r24, rfl, N23q, hr_r24, e23⟩ := hQ23
  have N23 : Fr n0 L23 := by rw [l23]; exact Fr.app N21 N23q
  refine own_go (fun _ k => st23 _ k) ?_
  show own_Go _ _ _ _ T23 (mkF m 106 #[.val (.long q_1), .second, .val (.long q_2), .second, .val (.long q_3), .second, .val (.long q_4), .second, .val (.int r2), .val (.int r4), .val (.int r6), .val (.int r8), .val (.int r10), .val (.int r12), .val (.int r14), .val (.int r16), .val (.int r18), .val (.int r20), .val (.int r22), .unset, .unset, .unset, .unset, .unset, .unset, .unset, .unset, .unset, .unset] [(.int r24)])
  refine own_go (fun _ k => XS.istore X23.here hx rfl (hb hby at_106) rfl (l' := #[.val (.long q_1), .second, .val (.long q_2), .second, .val (.long q_3), .second, .val (.long q_4), .second, .val (.int r2), .val (.int r4), .val (.int r6), .val (.int r8), .val (.int r10), .val (.int r12), .val (.int r14), .val (.int r16), .val (.int r18), .val (.int r20), .val (.int r22), .val (.int r24), .unset, .unset, .unset, .unset, .unset, .unset, .unset, .unset, .unset]) rfl k) ?_
  show own_Go _ _ _ _ T23 (mkF m 108 #[.val (.long q_1), .second, .val (.long q_2), .second, .val (.long q_3), .second, .val (.long q_4), .second, .val (.int r2), .val (.int r4), .val (.int r6), .val (.int r8), .val (.int r10), .val (.int r12), .val (.int r14), .val (.int r16), .val (.int r18), .val (.int r20), .val (.int r22), .val (.int r24), .unset, .unset, .unset, .unset, .unset, .unset, .unset, .unset, .unset] [])
  refine own_go (fun _ k => XS.iload X23.here hx rfl (hb hby at_108) rfl k) ?_
  show own_Go _ _ _ _ T23 (mkF m 110 #[.val (.long q_1), .second, .val (.long q_2), .second, .val (.long q_3), .second, .val (.long q_4), .second, .val (.int r2), .val (.int r4), .val (.int r6), .val (.int r8), .val (.int r10), .val (.int r12), .val (.int r14), .val (.int r16), .val (.int r18), .val (.int r20), .val (.int r22), .val (.int r24), .unset, .unset, .unset, .unset, .unset, .unset, .unset, .unset, .unset] [(.int r10)])
  refine own_go (fun _ k => XS.iload X23.here hx rfl (hb hby at_110) rfl k) ?_
  show own_Go _ _ _ _ T23 (mkF m 112 #[.val (.long q_1), .second, .val (.long q_2), .second, .val (.long q_3), .second, .val (.long q_4), .second, .val (.int r2), .val (.int r4), .val (.int r6), .val (.int r8), .val (.int r10), .val (.int r12), .val (.int r14), .val (.int r16), .val (.int r18), .val (.int r20), .val (.int r22), .val (.int r24), .unset, .unset, .unset, .unset, .unset, .unset, .unset, .unset, .unset] [(.int r12), (.int r10)])
  obtain ⟨_, _, ⟨T25, L25, k25, n25⟩, -, X25, ⟨Lc25, hQ25, l25, y25, z25⟩, st25⟩ := Jvm.LawKit.callS X23 hx (y := (⟨"java/lang/Math", "min", "(II)I"⟩ : MethodName)) hown (mvT hZ (hw _ (List.mem_of_getElem? (i := 9) rfl))) (mvT hZ (hw _ (List.mem_of_getElem? (i := 10) rfl))) (mvT hZ (hw _ (List.mem_of_getElem? (i := 11) rfl))) (mvT hZ (hw _ (List.mem_of_getElem? (i := 12) rfl))) (by decide) (backOf (W := 0) (own_rm3 l Z a0 hw [] r10 r12  h0 n0 (by omega) ) hZ (hw _ (List.mem_of_getElem? (i := 12) rfl)) (hw _ (List.mem_of_getElem? (i := 11) rfl)) (by decide) (by decide)) (g := (mkF m 112 #[.val (.long q_1), .second, .val (.long q_2), .second, .val (.long q_3), .second, .val (.long q_4), .second, .val (.int r2), .val (.int r4), .val (.int r6), .val (.int r8), .val (.int r10), .val (.int r12), .val (.int r14), .val (.int r16), .val (.int r18), .val (.int r20), .val (.int r22), .val (.int r24), .unset, .unset, .unset, .unset, .unset, .unset, .unset, .unset, .unset] [(.int r12), (.int r10)])) rfl (by rw [hml]; rfl) (argsL := [(.int r10), (.int r12)]) (rest := []) (lenOf own_pd2 rfl) rfl (by show 2 * 0 + _ ≤ _; exact Nat.le_of_eq rfl) (hb hby at_112) (fun _ _ => ⟨rfl, e23, (by show k23 + _ ≤ _; rw [y23]; decide), (by show n23 + _ ≤ _; rw [z23]; decide)⟩)
  dsimp only [Pt.U, Pt.locs, Pt.cells, Pt.slots] at X25 l25 y25 z25 st25 hQ25
  have y25 : k25 = 0 := own_addeq y25 (congrArg (fun q => q) y23) rfl
  have z25 : n25 = 0 := own_addeq z25 (congrArg (fun q => q) z23) rfl
  obtain ⟨r26, rfl, N25q, hr_r26, e25⟩ := hQ25
  have N25 : Fr n0 L25 := by rw [l25]; exact Fr.app N23 N25q
  refine own_go (fun _ k => st25 _ k) ?_
  show own_Go _ _ _ _ T25 (mkF m 115 #[.val (.long q_1), .second, .val (.long q_2), .second, .val (.long q_3), .second, .val (.long q_4), .second, .val (.int r2), .val (.int r4), .val (.int r6), .val (.int r8), .val (.int r10), .val (.int r12), .val (.int r14), .val (.int r16), .val (.int r18), .val (.int r20), .val (.int r22), .val (.int r24), .unset, .unset, .unset, .unset, .unset, .unset, .unset, .unset, .unset] [(.int r26)])
  refine own_go (fun _ k => XS.istore X25.here hx rfl (hb hby at_115) rfl (l' := #[.val (.long q_1), .second, .val (.long q_2), .second, .val (.long q_3), .second, .val (.long q_4), .second, .val (.int r2), .val (.int r4), .val (.int r6), .val (.int r8), .val (.int r10), .val (.int r12), .val (.int r14), .val (.int r16), .val (.int r18), .val (.int r20), .val (.int r22), .val (.int r24), .val (.int r26), .unset, .unset, .unset, .unset, .unset, .unset, .unset, .unset]) rfl k) ?_
  show own_Go _ _ _ _ T25 (mkF m 117 #[.val (.long q_1), .second, .val (.long q_2), .second, .val (.long q_3), .second, .val (.long q_4), .second, .val (.int r2), .val (.int r4), .val (.int r6), .val (.int r8), .val (.int r10), .val (.int r12), .val (.int r14), .val (.int r16), .val (.int r18), .val (.int r20), .val (.int r22), .val (.int r24), .val (.int r26), .unset, .unset, .unset, .unset, .unset, .unset, .unset, .unset] [])
  refine own_go (fun _ k => XS.iload X25.here hx rfl (hb hby at_117) rfl k) ?_
  show own_Go _ _ _ _ T25 (mkF m 119 #[.val (.long q_1), .second, .val (.long q_2), .second, .val (.long q_3), .second, .val (.long q_4), .second, .val (.int r2), .val (.int r4), .val (.int r6), .val (.int r8), .val (.int r10), .val (.int r12), .val (.int r14), .val (.int r16), .val (.int r18), .val (.int r20), .val (.int r22), .val (.int r24), .val (.int r26), .unset, .unset, .unset, .unset, .unset, .unset, .unset, .unset] [(.int r10)])
  refine own_go (fun _ k => XS.iload X25.here hx rfl (hb hby at_119) rfl k) ?_
  show own_Go _ _ _ _ T25 (mkF m 121 #[.val (.long q_1), .second, .val (.long q_2), .second, .val (.long q_3), .second, .val (.long q_4), .second, .val (.int r2), .val (.int r4), .val (.int r6), .val (.int r8), .val (.int r10), .val (.int r12), .val (.int r14), .val (.int r16), .val (.int r18), .val (.int r20), .val (.int r22), .val (.int r24), .val (.int r26), .unset, .unset, .unset, .unset, .unset, .unset, .unset, .unset] [(.int r12), (.int r10)])
  obtain ⟨_, _, ⟨T27, L27, k27, n27⟩, -, X27, ⟨Lc27, hQ27, l27, y27, z27⟩, st27⟩ := Jvm.LawKit.callS X25 hx (y := (⟨"java/lang/Math", "max", "(II)I"⟩ : MethodName)) hown (mvT hZ (hw _ (List.mem_of_getElem? (i := 13) rfl))) (mvT hZ (hw _ (List.mem_of_getElem? (i := 14) rfl))) (mvT hZ (hw _ (List.mem_of_getElem? (i := 11) rfl))) (mvT hZ (hw _ (List.mem_of_getElem? (i := 15) rfl))) (by decide) (backOf (W := 0) (own_rm4 l Z a0 hw [] r10 r12  h0 n0 (by omega) ) hZ (hw _ (List.mem_of_getElem? (i := 15) rfl)) (hw _ (List.mem_of_getElem? (i := 11) rfl)) (by decide) (by decide)) (g := (mkF m 121 #[.val (.long q_1), .second, .val (.long q_2), .second, .val (.long q_3), .second, .val (.long q_4), .second, .val (.int r2), .val (.int r4), .val (.int r6), .val (.int r8), .val (.int r10), .val (.int r12), .val (.int r14), .val (.int r16), .val (.int r18), .val (.int r20), .val (.int r22), .val (.int r24), .val (.int r26), .unset, .unset, .unset, .unset, .unset, .unset, .unset, .unset] [(.int r12), (.int r10)])) rfl (by rw [hml]; rfl) (argsL := [(.int r10), (.int r12)]) (rest := []) (lenOf own_pd2 rfl) rfl (by show 2 * 0 + _ ≤ _; exact Nat.le_of_eq rfl) (hb hby at_121) (fun _ _ => ⟨rfl, e25, (by show k25 + _ ≤ _; rw [y25]; decide), (by show n25 + _ ≤ _; rw [z25]; decide)⟩)
  dsimp only [Pt.U, Pt.locs, Pt.cells, Pt.slots] at X27 l27 y27 z27 st27 hQ27
  have y27 : k27 = 0 := own_addeq y27 (congrArg (fun q => q) y25) rfl
  have z27 : n27 = 0 := own_addeq z27 (congrArg (fun q => q) z25) rfl
  obtain ⟨r28, rfl, N27q, hr_r28, e27⟩ := hQ27
  have N27 : Fr n0 L27 := by rw [l27]; exact Fr.app N25 N27q
  refine own_go (fun _ k => st27 _ k) ?_
  show own_Go _ _ _ _ T27 (mkF m 124 #[.val (.long q_1), .second, .val (.long q_2), .second, .val (.long q_3), .second, .val (.long q_4), .second, .val (.int r2), .val (.int r4), .val (.int r6), .val (.int r8), .val (.int r10), .val (.int r12), .val (.int r14), .val (.int r16), .val (.int r18), .val (.int r20), .val (.int r22), .val (.int r24), .val (.int r26), .unset, .unset, .unset, .unset, .unset, .unset, .unset, .unset] [(.int r28)])
  refine own_go (fun _ k => XS.istore X27.here hx rfl (hb hby at_124) rfl (l' := #[.val (.long q_1), .second, .val (.long q_2), .second, .val (.long q_3), .second, .val (.long q_4), .second, .val (.int r2), .val (.int r4), .val (.int r6), .val (.int r8), .val (.int r10), .val (.int r12), .val (.int r14), .val (.int r16), .val (.int r18), .val (.int r20), .val (.int r22), .val (.int r24), .val (.int r26), .val (.int r28), .unset, .unset, .unset, .unset, .unset, .unset, .unset]) rfl k) ?_
  show own_Go _ _ _ _ T27 (mkF m 126 #[.val (.long q_1), .second, .val (.long q_2), .second, .val (.long q_3), .second, .val (.long q_4), .second, .val (.int r2), .val (.int r4), .val (.int r6), .val (.int r8), .val (.int r10), .val (.int r12), .val (.int r14), .val (.int r16), .val (.int r18), .val (.int r20), .val (.int r22), .val (.int r24), .val (.int r26), .val (.int r28), .unset, .unset, .unset, .unset, .unset, .unset, .unset] [])
  refine own_go (fun _ k => XS.iload X27.here hx rfl (hb hby at_126) rfl k) ?_
  show own_Go _ _ _ _ T27 (mkF m 128 #[.val (.long q_1), .second, .val (.long q_2), .second, .val (.long q_3), .second, .val (.long q_4), .second, .val (.int r2), .val (.int r4), .val (.int r6), .val (.int r8), .val (.int r10), .val (.int r12), .val (.int r14), .val (.int r16), .val (.int r18), .val (.int r20), .val (.int r22), .val (.int r24), .val (.int r26), .val (.int r28), .unset, .unset, .unset, .unset, .unset, .unset, .unset] [(.int r14)])
  refine own_go (fun _ k => XS.iload X27.here hx rfl (hb hby at_128) rfl k) ?_
  show own_Go _ _ _ _ T27 (mkF m 130 #[.val (.long q_1), .second, .val (.long q_2), .second, .val (.long q_3), .second, .val (.long q_4), .second, .val (.int r2), .val (.int r4), .val (.int r6), .val (.int r8), .val (.int r10), .val (.int r12), .val (.int r14), .val (.int r16), .val (.int r18), .val (.int r20), .val (.int r22), .val (.int r24), .val (.int r26), .val (.int r28), .unset, .unset, .unset, .unset, .unset, .unset, .unset] [(.int r16), (.int r14)])
  obtain ⟨_, _, ⟨T29, L29, k29, n29⟩, -, X29, ⟨Lc29, hQ29, l29, y29, z29⟩, st29⟩ := Jvm.LawKit.callS X27 hx (y := (⟨"java/lang/Math", "min", "(II)I"⟩ : MethodName)) hown (mvT hZ (hw _ (List.mem_of_getElem? (i := 9) rfl))) (mvT hZ (hw _ (List.mem_of_getElem? (i := 10) rfl))) (mvT hZ (hw _ (List.mem_of_getElem? (i := 11) rfl))) (mvT hZ (hw _ (List.mem_of_getElem? (i := 12) rfl))) (by decide) (backOf (W := 0) (own_rm3 l Z a0 hw [] r14 r16  h0 n0 (by omega) ) hZ (hw _ (List.mem_of_getElem? (i := 12) rfl)) (hw _ (List.mem_of_getElem? (i := 11) rfl)) (by decide) (by decide)) (g := (mkF m 130 #[.val (.long q_1), .second, .val (.long q_2), .second, .val (.long q_3), .second, .val (.long q_4), .second, .val (.int r2), .val (.int r4), .val (.int r6), .val (.int r8), .val (.int r10), .val (.int r12), .val (.int r14), .val (.int r16), .val (.int r18), .val (.int r20), .val (.int r22), .val (.int r24), .val (.int r26), .val (.int r28), .unset, .unset, .unset, .unset, .unset, .unset, .unset] [(.int r16), (.int r14)])) rfl (by rw [hml]; rfl) (argsL := [(.int r14), (.int r16)]) (rest := []) (lenOf own_pd2 rfl) rfl (by show 2 * 0 + _ ≤ _; exact Nat.le_of_eq rfl) (hb hby at_130) (fun _ _ => ⟨rfl, e27, (by show k27 + _ ≤ _; rw [y27]; decide), (by show n27 + _ ≤ _; rw [z27]; decide)⟩)
  dsimp only [Pt.U, Pt.locs, Pt.cells, Pt.slots] at X29 l29 y29 z29 st29 hQ29
  have y29 : k29 = 0 := own_addeq y29 (congrArg (fun q => q) y27) rfl
  have z29 : n29 = 0 := own_addeq z29 (congrArg (fun q => q) z27) rfl
  obtain ⟨r30, rfl, N29q, hr_r30, e29⟩ := hQ29
  have N29 : Fr n0 L29 := by rw [l29]; exact Fr.app N27 N29q
  refine own_go (fun _ k => st29 _ k) ?_
  show own_Go _ _ _ _ T29 (mkF m 133 #[.val (.long q_1), .second, .val (.long q_2), .second, .val (.long q_3), .second, .val (.long q_4), .second, .val (.int r2), .val (.int r4), .val (.int r6), .val (.int r8), .val (.int r10), .val (.int r12), .val (.int r14), .val (.int r16), .val (.int r18), .val (.int r20), .val (.int r22), .val (.int r24), .val (.int r26), .val (.int r28), .unset, .unset, .unset, .unset, .unset, .unset, .unset] [(.int r30)])
  refine own_go (fun _ k => XS.istore X29.here hx rfl (hb hby at_133) rfl (l' := #[.val (.long q_1), .second, .val (.long q_2), .second, .val (.long q_3), .second, .val (.long q_4), .second, .val (.int r2), .val (.int r4), .val (.int r6), .val (.int r8), .val (.int r10), .val (.int r12), .val (.int r14), .val (.int r16), .val (.int r18), .val (.int r20), .val (.int r22), .val (.int r24), .val (.int r26), .val (.int r28), .val (.int r30), .unset, .unset, .unset, .unset, .unset, .unset]) rfl k) ?_
  show own_Go _ _ _ _ T29 (mkF m 135 #[.val (.long q_1), .second, .val (.long q_2), .second, .val (.long q_3), .second, .val (.long q_4), .second, .val (.int r2), .val (.int r4), .val (.int r6), .val (.int r8), .val (.int r10), .val (.int r12), .val (.int r14), .val (.int r16), .val (.int r18), .val (.int r20), .val (.int r22), .val (.int r24), .val (.int r26), .val (.int r28), .val (.int r30), .unset, .unset, .unset, .unset, .unset, .unset] [])
  refine own_go (fun _ k => XS.iload X29.here hx rfl (hb hby at_135) rfl k) ?_
  show own_Go _ _ _ _ T29 (mkF m 137 #[.val (.long q_1), .second, .val (.long q_2), .second, .val (.long q_3), .second, .val (.long q_4), .second, .val (.int r2), .val (.int r4), .val (.int r6), .val (.int r8), .val (.int r10), .val (.int r12), .val (.int r14), .val (.int r16), .val (.int r18), .val (.int r20), .val (.int r22), .val (.int r24), .val (.int r26), .val (.int r28), .val (.int r30), .unset, .unset, .unset, .unset, .unset, .unset] [(.int r14)])
  refine own_go (fun _ k => XS.iload X29.here hx rfl (hb hby at_137) rfl k) ?_
  show own_Go _ _ _ _ T29 (mkF m 139 #[.val (.long q_1), .second, .val (.long q_2), .second, .val (.long q_3), .second, .val (.long q_4), .second, .val (.int r2), .val (.int r4), .val (.int r6), .val (.int r8), .val (.int r10), .val (.int r12), .val (.int r14), .val (.int r16), .val (.int r18), .val (.int r20), .val (.int r22), .val (.int r24), .val (.int r26), .val (.int r28), .val (.int r30), .unset, .unset, .unset, .unset, .unset, .unset] [(.int r16), (.int r14)])
  obtain ⟨_, _, ⟨T31, L31, k31, n31⟩, -, X31, ⟨Lc31, hQ31, l31, y31, z31⟩, st31⟩ := Jvm.LawKit.callS X29 hx (y := (⟨"java/lang/Math", "max", "(II)I"⟩ : MethodName)) hown (mvT hZ (hw _ (List.mem_of_getElem? (i := 13) rfl))) (mvT hZ (hw _ (List.mem_of_getElem? (i := 14) rfl))) (mvT hZ (hw _ (List.mem_of_getElem? (i := 11) rfl))) (mvT hZ (hw _ (List.mem_of_getElem? (i := 15) rfl))) (by decide) (backOf (W := 0) (own_rm4 l Z a0 hw [] r14 r16  h0 n0 (by omega) ) hZ (hw _ (List.mem_of_getElem? (i := 15) rfl)) (hw _ (List.mem_of_getElem? (i := 11) rfl)) (by decide) (by decide)) (g := (mkF m 139 #[.val (.long q_1), .second, .val (.long q_2), .second, .val (.long q_3), .second, .val (.long q_4), .second, .val (.int r2), .val (.int r4), .val (.int r6), .val (.int r8), .val (.int r10), .val (.int r12), .val (.int r14), .val (.int r16), .val (.int r18), .val (.int r20), .val (.int r22), .val (.int r24), .val (.int r26), .val (.int r28), .val (.int r30), .unset, .unset, .unset, .unset, .unset, .unset] [(.int r16), (.int r14)])) rfl (by rw [hml]; rfl) (argsL := [(.int r14), (.int r16)]) (rest := []) (lenOf own_pd2 rfl) rfl (by show 2 * 0 + _ ≤ _; exact Nat.le_of_eq rfl) (hb hby at_139) (fun _ _ => ⟨rfl, e29, (by show k29 + _ ≤ _; rw [y29]; decide), (by show n29 + _ ≤ _; rw [z29]; decide)⟩)
  dsimp only [Pt.U, Pt.locs, Pt.cells, Pt.slots] at X31 l31 y31 z31 st31 hQ31
  have y31 : k31 = 0 := own_addeq y31 (congrArg (fun q => q) y29) rfl
  have z31 : n31 = 0 := own_addeq z31 (congrArg (fun q => q) z29) rfl
  obtain ⟨r32, rfl, N31q, hr_r32, e31⟩ := hQ31
  have N31 : Fr n0 L31 := by rw [l31]; exact Fr.app N29 N31q
  refine own_go (fun _ k => st31 _ k) ?_
  show own_Go _ _ _ _ T31 (mkF m 142 #[.val (.long q_1), .second, .val (.long q_2), .second, .val (.long q_3), .second, .val (.long q_4), .second, .val (.int r2), .val (.int r4), .val (.int r6), .val (.int r8), .val (.int r10), .val (.int r12), .val (.int r14), .val (.int r16), .val (.int r18), .val (.int r20), .val (.int r22), .val (.int r24), .val (.int r26), .val (.int r28), .val (.int r30), .unset, .unset, .unset, .unset, .unset, .unset] [(.int r32)])
  refine own_go (fun _ k => XS.istore X31.here hx rfl (hb hby at_142) rfl (l' := #[.val (.long q_1), .second, .val (.long q_2), .second, .val (.long q_3), .second, .val (.long q_4), .second, .val (.int r2), .val (.int r4), .val (.int r6), .val (.int r8), .val (.int r10), .val (.int r12), .val (.int r14), .val (.int r16), .val (.int r18), .val (.int r20), .val (.int r22), .val (.int r24), .val (.int r26), .val (.int r28), .val (.int r30), .val (.int r32), .unset, .unset, .unset, .unset, .unset]) rfl k) ?_
  show own_Go _ _ _ _ T31 (mkF m 144 #[.val (.long q_1), .second, .val (.long q_2), .second, .val (.long q_3), .second, .val (.long q_4), .second, .val (.int r2), .val (.int r4), .val (.int r6), .val (.int r8), .val (.int r10), .val (.int r12), .val (.int r14), .val (.int r16), .val (.int r18), .val (.int r20), .val (.int r22), .val (.int r24), .val (.int r26), .val (.int r28), .val (.int r30), .val (.int r32), .unset, .unset, .unset, .unset, .unset] [])
  obtain ⟨T33, h33, X33, e33, E33, A33, D33, Y33, st33⟩ := newO X31 hx hZ hown (hw _ (List.mem_of_getElem? (i := 16) rfl)) (hw _ (List.mem_of_getElem? (i := 17) rfl)) (hw _ (List.mem_of_getElem? (i := 18) rfl)) e31 (g := (mkF m 144 #[.val (.long q_1), .second, .val (.long q_2), .second, .val (.long q_3), .second, .val (.long q_4), .second, .val (.int r2), .val (.int r4), .val (.int r6), .val (.int r8), .val (.int r10), .val (.int r12), .val (.int r14), .val (.int r16), .val (.int r18), .val (.int r20), .val (.int r22), .val (.int r24), .val (.int r26), .val (.int r28), .val (.int r30), .val (.int r32), .unset, .unset, .unset, .unset, .unset] [])) rfl (hb hby at_144) (by rw [y31]; decide) (by rw [z31]; decide)
  obtain ⟨b33, g33⟩ : ∃ z, z = h0.size := ⟨_, rfl⟩
  rw [← g33] at A33 D33 Y33 st33
  have z34 := E33.1
  have lt_b33 := own_lt A33.lt
  have F_firstRow_b33 : Fld Z h33 b33 "com/example/ratebook/ratebook/CellRange" "firstRow" "I" (.int (0 : Int32)) := D33 (Or.inr (hw _ (List.mem_of_getElem? (i := 31) rfl))) (ty := .int) (by decide)
  have F_firstColumn_b33 : Fld Z h33 b33 "com/example/ratebook/ratebook/CellRange" "firstColumn" "I" (.int (0 : Int32)) := D33 (Or.inr (hw _ (List.mem_of_getElem? (i := 33) rfl))) (ty := .int) (by decide)
  have F_lastRow_b33 : Fld Z h33 b33 "com/example/ratebook/ratebook/CellRange" "lastRow" "I" (.int (0 : Int32)) := D33 (Or.inr (hw _ (List.mem_of_getElem? (i := 35) rfl))) (ty := .int) (by decide)
  have F_lastColumn_b33 : Fld Z h33 b33 "com/example/ratebook/ratebook/CellRange" "lastColumn" "I" (.int (0 : Int32)) := D33 (Or.inr (hw _ (List.mem_of_getElem? (i := 37) rfl))) (ty := .int) (by decide)
  refine own_go (fun _ k => st33 _ k) ?_
  show own_Go _ _ _ _ T33 (mkF m 147 #[.val (.long q_1), .second, .val (.long q_2), .second, .val (.long q_3), .second, .val (.long q_4), .second, .val (.int r2), .val (.int r4), .val (.int r6), .val (.int r8), .val (.int r10), .val (.int r12), .val (.int r14), .val (.int r16), .val (.int r18), .val (.int r20), .val (.int r22), .val (.int r24), .val (.int r26), .val (.int r28), .val (.int r30), .val (.int r32), .unset, .unset, .unset, .unset, .unset] [(.ref b33)])
  refine own_go (fun _ k => XS.dup X33.here hx rfl (hb hby at_147) rfl rfl k) ?_
  show own_Go _ _ _ _ T33 (mkF m 148 #[.val (.long q_1), .second, .val (.long q_2), .second, .val (.long q_3), .second, .val (.long q_4), .second, .val (.int r2), .val (.int r4), .val (.int r6), .val (.int r8), .val (.int r10), .val (.int r12), .val (.int r14), .val (.int r16), .val (.int r18), .val (.int r20), .val (.int r22), .val (.int r24), .val (.int r26), .val (.int r28), .val (.int r30), .val (.int r32), .unset, .unset, .unset, .unset, .unset] [(.ref b33), (.ref b33)])
  refine own_go (fun _ k => XS.iload X33.here hx rfl (hb hby at_148) rfl k) ?_
  show own_Go _ _ _ _ T33 (mkF m 150 #[.val (.long q_1), .second, .val (.long q_2), .second, .val (.long q_3), .second, .val (.long q_4), .second, .val (.int r2), .val (.int r4), .val (.int r6), .val (.int r8), .val (.int r10), .val (.int r12), .val (.int r14), .val (.int r16), .val (.int r18), .val (.int r20), .val (.int r22), .val (.int r24), .val (.int r26), .val (.int r28), .val (.int r30), .val (.int r32), .unset, .unset, .unset, .unset, .unset] [(.int r18), (.ref b33), (.ref b33)])
  refine own_go (fun _ k => XS.iload X33.here hx rfl (hb hby at_150) rfl k) ?_
  show own_Go _ _ _ _ T33 (mkF m 152 #[.val (.long q_1), .second, .val (.long q_2), .second, .val (.long q_3), .second, .val (.long q_4), .second, .val (.int r2), .val (.int r4), .val (.int r6), .val (.int r8), .val (.int r10), .val (.int r12), .val (.int r14), .val (.int r16), .val (.int r18), .val (.int r20), .val (.int r22), .val (.int r24), .val (.int r26), .val (.int r28), .val (.int r30), .val (.int r32), .unset, .unset, .unset, .unset, .unset] [(.int r22), (.int r18), (.ref b33), (.ref b33)])
  refine own_go (fun _ k => XS.iload X33.here hx rfl (hb hby at_152) rfl k) ?_
  show own_Go _ _ _ _ T33 (mkF m 154 #[.val (.long q_1), .second, .val (.long q_2), .second, .val (.long q_3), .second, .val (.long q_4), .second, .val (.int r2), .val (.int r4), .val (.int r6), .val (.int r8), .val (.int r10), .val (.int r12), .val (.int r14), .val (.int r16), .val (.int r18), .val (.int r20), .val (.int r22), .val (.int r24), .val (.int r26), .val (.int r28), .val (.int r30), .val (.int r32), .unset, .unset, .unset, .unset, .unset] [(.int r20), (.int r22), (.int r18), (.ref b33), (.ref b33)])
  refine own_go (fun _ k => XS.iload X33.here hx rfl (hb hby at_154) rfl k) ?_
  show own_Go _ _ _ _ T33 (mkF m 156 #[.val (.long q_1), .second, .val (.long q_2), .second, .val (.long q_3), .second, .val (.long q_4), .second, .val (.int r2), .val (.int r4), .val (.int r6), .val (.int r8), .val (.int r10), .val (.int r12), .val (.int r14), .val (.int r16), .val (.int r18), .val (.int r20), .val (.int r22), .val (.int r24), .val (.int r26), .val (.int r28), .val (.int r30), .val (.int r32), .unset, .unset, .unset, .unset, .unset] [(.int r24), (.int r20), (.int r22), (.int r18), (.ref b33), (.ref b33)])
  obtain ⟨_, _, ⟨T35, L35, k35, n35⟩, -, X35, ⟨Lc35, hQ35, l35, y35, z35⟩, st35⟩ := X33.specialBack hx (y := (⟨"com/example/ratebook/ratebook/CellRange", "<init>", "(IIII)V"⟩ : MethodName)) rfl hown (mvT hZ (hw _ (List.mem_of_getElem? (i := 19) rfl))) (mvT hZ (hw _ (List.mem_of_getElem? (i := 20) rfl))) (mvT hZ (hw _ (List.mem_of_getElem? (i := 21) rfl))) (by decide) (backOf (W := 1) (own_rm5 l Z a0 hw [] b33 r18 r22 r20 r24 (0 : Int32) (0 : Int32) (0 : Int32) (0 : Int32) h33 n0 (by omega) A33 F_firstRow_b33 F_firstColumn_b33 F_lastRow_b33 F_lastColumn_b33 (by omega)) hZ (hw _ (List.mem_of_getElem? (i := 21) rfl)) (hw _ (List.mem_of_getElem? (i := 18) rfl)) (by decide) (by decide)) (g := (mkF m 156 #[.val (.long q_1), .second, .val (.long q_2), .second, .val (.long q_3), .second, .val (.long q_4), .second, .val (.int r2), .val (.int r4), .val (.int r6), .val (.int r8), .val (.int r10), .val (.int r12), .val (.int r14), .val (.int r16), .val (.int r18), .val (.int r20), .val (.int r22), .val (.int r24), .val (.int r26), .val (.int r28), .val (.int r30), .val (.int r32), .unset, .unset, .unset, .unset, .unset] [(.int r24), (.int r20), (.int r22), (.int r18), (.ref b33), (.ref b33)])) rfl (by rw [hml]; rfl) (Steps.refl _) (a := b33) (argsL := [(.int r18), (.int r22), (.int r20), (.int r24)]) (rest := [(.ref b33)]) (lenOf own_pd3 rfl) rfl (by show 2 * 0 + _ ≤ _; exact Nat.le_of_eq rfl) (hb hby at_156) (fun _ _ => ⟨rfl, e33, (by show k31 + 1 + _ ≤ _; rw [y31]; decide), (by show n31 + 4 + _ ≤ _; rw [z31]; decide)⟩)
  dsimp only [Pt.U, Pt.locs, Pt.cells, Pt.slots] at X35 l35 y35 z35 st35 hQ35
  have y35 : k35 = 1 := own_addeq y35 (congrArg (fun q => q + 1) y31) rfl
  have z35 : n35 = 4 := own_addeq z35 (congrArg (fun q => q + 4) z31) rfl
  obtain ⟨rfl, N35q, K35q, f36, f37, f38, f39, f40⟩ := hQ35
  have N35 : Fr n0 L35 := by rw [l35]; exact Fr.app N31 N35q
  have z41 := K35q.1
  have z42 := own_lt f36.lt
  have z43 := own_lt f37.lt
  have z44 := own_lt f38.lt
  have z45 := own_lt f39.lt
  have z46 := own_lt f40.lt
  refine own_go (fun _ k => st35.trans k) ?_
  show own_Go _ _ _ _ T35 (mkF m 159 #[.val (.long q_1), .second, .val (.long q_2), .second, .val (.long q_3), .second, .val (.long q_4), .second, .val (.int r2), .val (.int r4), .val (.int r6), .val (.int r8), .val (.int r10), .val (.int r12), .val (.int r14), .val (.int r16), .val (.int r18), .val (.int r20), .val (.int r22), .val (.int r24), .val (.int r26), .val (.int r28), .val (.int r30), .val (.int r32), .unset, .unset, .unset, .unset, .unset] [(.ref b33)])
  refine own_go (fun _ k => XS.astore X35.here hx rfl (hb hby at_159) rfl rfl (l' := #[.val (.long q_1), .second, .val (.long q_2), .second, .val (.long q_3), .second, .val (.long q_4), .second, .val (.int r2), .val (.int r4), .val (.int r6), .val (.int r8), .val (.int r10), .val (.int r12), .val (.int r14), .val (.int r16), .val (.int r18), .val (.int r20), .val (.int r22), .val (.int r24), .val (.int r26), .val (.int r28), .val (.int r30), .val (.int r32), .val (.ref b33), .unset, .unset, .unset, .unset]) rfl k) ?_
  show own_Go _ _ _ _ T35 (mkF m 161 #[.val (.long q_1), .second, .val (.long q_2), .second, .val (.long q_3), .second, .val (.long q_4), .second, .val (.int r2), .val (.int r4), .val (.int r6), .val (.int r8), .val (.int r10), .val (.int r12), .val (.int r14), .val (.int r16), .val (.int r18), .val (.int r20), .val (.int r22), .val (.int r24), .val (.int r26), .val (.int r28), .val (.int r30), .val (.int r32), .val (.ref b33), .unset, .unset, .unset, .unset] [])
  obtain ⟨T47, h47, X47, e47, E47, A47, D47, Y47, st47⟩ := newO X35 hx hZ hown (hw _ (List.mem_of_getElem? (i := 16) rfl)) (hw _ (List.mem_of_getElem? (i := 17) rfl)) (hw _ (List.mem_of_getElem? (i := 18) rfl)) rfl (g := (mkF m 161 #[.val (.long q_1), .second, .val (.long q_2), .second, .val (.long q_3), .second, .val (.long q_4), .second, .val (.int r2), .val (.int r4), .val (.int r6), .val (.int r8), .val (.int r10), .val (.int r12), .val (.int r14), .val (.int r16), .val (.int r18), .val (.int r20), .val (.int r22), .val (.int r24), .val (.int r26), .val (.int r28), .val (.int r30), .val (.int r32), .val (.ref b33), .unset, .unset, .unset, .unset] [])) rfl (hb hby at_161) (by rw [y35]; decide) (by rw [z35]; decide)
  obtain ⟨b47, g47⟩ : ∃ z, z = T35.heap.size := ⟨_, rfl⟩
  rw [← g47] at A47 D47 Y47 st47
  have z48 := E47.1
  have lt_b47 := own_lt A47.lt
  have F_firstRow_b47 : Fld Z h47 b47 "com/example/ratebook/ratebook/CellRange" "firstRow" "I" (.int (0 : Int32)) := D47 (Or.inr (hw _ (List.mem_of_getElem? (i := 31) rfl))) (ty := .int) (by decide)
  have F_firstColumn_b47 : Fld Z h47 b47 "com/example/ratebook/ratebook/CellRange" "firstColumn" "I" (.int (0 : Int32)) := D47 (Or.inr (hw _ (List.mem_of_getElem? (i := 33) rfl))) (ty := .int) (by decide)
  have F_lastRow_b47 : Fld Z h47 b47 "com/example/ratebook/ratebook/CellRange" "lastRow" "I" (.int (0 : Int32)) := D47 (Or.inr (hw _ (List.mem_of_getElem? (i := 35) rfl))) (ty := .int) (by decide)
  have F_lastColumn_b47 : Fld Z h47 b47 "com/example/ratebook/ratebook/CellRange" "lastColumn" "I" (.int (0 : Int32)) := D47 (Or.inr (hw _ (List.mem_of_getElem? (i := 37) rfl))) (ty := .int) (by decide)
  refine own_go (fun _ k => st47 _ k) ?_
  show own_Go _ _ _ _ T47 (mkF m 164 #[.val (.long q_1), .second, .val (.long q_2), .second, .val (.long q_3), .second, .val (.long q_4), .second, .val (.int r2), .val (.int r4), .val (.int r6), .val (.int r8), .val (.int r10), .val (.int r12), .val (.int r14), .val (.int r16), .val (.int r18), .val (.int r20), .val (.int r22), .val (.int r24), .val (.int r26), .val (.int r28), .val (.int r30), .val (.int r32), .val (.ref b33), .unset, .unset, .unset, .unset] [(.ref b47)])
  refine own_go (fun _ k => XS.dup X47.here hx rfl (hb hby at_164) rfl rfl k) ?_
  show own_Go _ _ _ _ T47 (mkF m 165 #[.val (.long q_1), .second, .val (.long q_2), .second, .val (.long q_3), .second, .val (.long q_4), .second, .val (.int r2), .val (.int r4), .val (.int r6), .val (.int r8), .val (.int r10), .val (.int r12), .val (.int r14), .val (.int r16), .val (.int r18), .val (.int r20), .val (.int r22), .val (.int r24), .val (.int r26), .val (.int r28), .val (.int r30), .val (.int r32), .val (.ref b33), .unset, .unset, .unset, .unset] [(.ref b47), (.ref b47)])
  refine own_go (fun _ k => XS.iload X47.here hx rfl (hb hby at_165) rfl k) ?_
  show own_Go _ _ _ _ T47 (mkF m 167 #[.val (.long q_1), .second, .val (.long q_2), .second, .val (.long q_3), .second, .val (.long q_4), .second, .val (.int r2), .val (.int r4), .val (.int r6), .val (.int r8), .val (.int r10), .val (.int r12), .val (.int r14), .val (.int r16), .val (.int r18), .val (.int r20), .val (.int r22), .val (.int r24), .val (.int r26), .val (.int r28), .val (.int r30), .val (.int r32), .val (.ref b33), .unset, .unset, .unset, .unset] [(.int r26), (.ref b47), (.ref b47)])
  refine own_go (fun _ k => XS.iload X47.here hx rfl (hb hby at_167) rfl k) ?_
  show own_Go _ _ _ _ T47 (mkF m 169 #[.val (.long q_1), .second, .val (.long q_2), .second, .val (.long q_3), .second, .val (.long q_4), .second, .val (.int r2), .val (.int r4), .val (.int r6), .val (.int r8), .val (.int r10), .val (.int r12), .val (.int r14), .val (.int r16), .val (.int r18), .val (.int r20), .val (.int r22), .val (.int r24), .val (.int r26), .val (.int r28), .val (.int r30), .val (.int r32), .val (.ref b33), .unset, .unset, .unset, .unset] [(.int r30), (.int r26), (.ref b47), (.ref b47)])
  refine own_go (fun _ k => XS.iload X47.here hx rfl (hb hby at_169) rfl k) ?_
  show own_Go _ _ _ _ T47 (mkF m 171 #[.val (.long q_1), .second, .val (.long q_2), .second, .val (.long q_3), .second, .val (.long q_4), .second, .val (.int r2), .val (.int r4), .val (.int r6), .val (.int r8), .val (.int r10), .val (.int r12), .val (.int r14), .val (.int r16), .val (.int r18), .val (.int r20), .val (.int r22), .val (.int r24), .val (.int r26), .val (.int r28), .val (.int r30), .val (.int r32), .val (.ref b33), .unset, .unset, .unset, .unset] [(.int r28), (.int r30), (.int r26), (.ref b47), (.ref b47)])
  refine own_go (fun _ k => XS.iload X47.here hx rfl (hb hby at_171) rfl k) ?_
  show own_Go _ _ _ _ T47 (mkF m 173 #[.val (.long q_1), .second, .val (.long q_2), .second, .val (.long q_3), .second, .val (.long q_4), .second, .val (.int r2), .val (.int r4), .val (.int r6), .val (.int r8), .val (.int r10), .val (.int r12), .val (.int r14), .val (.int r16), .val (.int r18), .val (.int r20), .val (.int r22), .val (.int r24), .val (.int r26), .val (.int r28), .val (.int r30), .val (.int r32), .val (.ref b33), .unset, .unset, .unset, .unset] [(.int r32), (.int r28), (.int r30), (.int r26), (.ref b47), (.ref b47)])
  obtain ⟨_, _, ⟨T49, L49, k49, n49⟩, -, X49, ⟨Lc49, hQ49, l49, y49, z49⟩, st49⟩ := X47.specialBack hx (y := (⟨"com/example/ratebook/ratebook/CellRange", "<init>", "(IIII)V"⟩ : MethodName)) rfl hown (mvT hZ (hw _ (List.mem_of_getElem? (i := 19) rfl))) (mvT hZ (hw _ (List.mem_of_getElem? (i := 20) rfl))) (mvT hZ (hw _ (List.mem_of_getElem? (i := 21) rfl))) (by decide) (backOf (W := 1) (own_rm5 l Z a0 hw [] b47 r26 r30 r28 r32 (0 : Int32) (0 : Int32) (0 : Int32) (0 : Int32) h47 n0 (by omega) A47 F_firstRow_b47 F_firstColumn_b47 F_lastRow_b47 F_lastColumn_b47 (by omega)) hZ (hw _ (List.mem_of_getElem? (i := 21) rfl)) (hw _ (List.mem_of_getElem? (i := 18) rfl)) (by decide) (by decide)) (g := (mkF m 173 #[.val (.long q_1), .second, .val (.long q_2), .second, .val (.long q_3), .second, .val (.long q_4), .second, .val (.int r2), .val (.int r4), .val (.int r6), .val (.int r8), .val (.int r10), .val (.int r12), .val (.int r14), .val (.int r16), .val (.int r18), .val (.int r20), .val (.int r22), .val (.int r24), .val (.int r26), .val (.int r28), .val (.int r30), .val (.int r32), .val (.ref b33), .unset, .unset, .unset, .unset] [(.int r32), (.int r28), (.int r30), (.int r26), (.ref b47), (.ref b47)])) rfl (by rw [hml]; rfl) (Steps.refl _) (a := b47) (argsL := [(.int r26), (.int r30), (.int r28), (.int r32)]) (rest := [(.ref b47)]) (lenOf own_pd3 rfl) rfl (by show 2 * 0 + _ ≤ _; exact Nat.le_of_eq rfl) (hb hby at_173) (fun _ _ => ⟨rfl, e47, (by show k35 + 1 + _ ≤ _; rw [y35]; decide), (by show n35 + 4 + _ ≤ _; rw [z35]; decide)⟩)
  dsimp only [Pt.U, Pt.locs, Pt.cells, Pt.slots] at X49 l49 y49 z49 st49 hQ49
  have y49 : k49 = 2 := own_addeq y49 (congrArg (fun q => q + 1) y35) rfl
  have z49 : n49 = 8 := own_addeq z49 (congrArg (fun q => q + 4) z35) rfl
  obtain ⟨rfl, N49q, K49q, f50, f51, f52, f53, f54⟩ := hQ49
  have N49 : Fr n0 L49 := by rw [l49]; exact Fr.app N35 N49q
  have z55 := K49q.1
  have z56 := own_lt f50.lt
  have z57 := own_lt f51.lt
  have z58 := own_lt f52.lt
  have z59 := own_lt f53.lt
  have z60 := own_lt f54.lt
  refine own_go (fun _ k => st49.trans k) ?_
  show own_Go _ _ _ _ T49 (mkF m 176 #[.val (.long q_1), .second, .val (.long q_2), .second, .val (.long q_3), .second, .val (.long q_4), .second, .val (.int r2), .val (.int r4), .val (.int r6), .val (.int r8), .val (.int r10), .val (.int r12), .val (.int r14), .val (.int r16), .val (.int r18), .val (.int r20), .val (.int r22), .val (.int r24), .val (.int r26), .val (.int r28), .val (.int r30), .val (.int r32), .val (.ref b33), .unset, .unset, .unset, .unset] [(.ref b47)])
  refine own_go (fun _ k => XS.astore X49.here hx rfl (hb hby at_176) rfl rfl (l' := #[.val (.long q_1), .second, .val (.long q_2), .second, .val (.long q_3), .second, .val (.long q_4), .second, .val (.int r2), .val (.int r4), .val (.int r6), .val (.int r8), .val (.int r10), .val (.int r12), .val (.int r14), .val (.int r16), .val (.int r18), .val (.int r20), .val (.int r22), .val (.int r24), .val (.int r26), .val (.int r28), .val (.int r30), .val (.int r32), .val (.ref b33), .val (.ref b47), .unset, .unset, .unset]) rfl k) ?_
  show own_Go _ _ _ _ T49 (mkF m 178 #[.val (.long q_1), .second, .val (.long q_2), .second, .val (.long q_3), .second, .val (.long q_4), .second, .val (.int r2), .val (.int r4), .val (.int r6), .val (.int r8), .val (.int r10), .val (.int r12), .val (.int r14), .val (.int r16), .val (.int r18), .val (.int r20), .val (.int r22), .val (.int r24), .val (.int r26), .val (.int r28), .val (.int r30), .val (.int r32), .val (.ref b33), .val (.ref b47), .unset, .unset, .unset] [])
  refine own_go (fun _ k => XS.iload X49.here hx rfl (hb hby at_178) rfl k) ?_
  show own_Go _ _ _ _ T49 (mkF m 180 #[.val (.long q_1), .second, .val (.long q_2), .second, .val (.long q_3), .second, .val (.long q_4), .second, .val (.int r2), .val (.int r4), .val (.int r6), .val (.int r8), .val (.int r10), .val (.int r12), .val (.int r14), .val (.int r16), .val (.int r18), .val (.int r20), .val (.int r22), .val (.int r24), .val (.int r26), .val (.int r28), .val (.int r30), .val (.int r32), .val (.ref b33), .val (.ref b47), .unset, .unset, .unset] [(.int r18)])
  refine own_go (fun _ k => XS.iload X49.here hx rfl (hb hby at_180) rfl k) ?_
  show own_Go _ _ _ _ T49 (mkF m 182 #[.val (.long q_1), .second, .val (.long q_2), .second, .val (.long q_3), .second, .val (.long q_4), .second, .val (.int r2), .val (.int r4), .val (.int r6), .val (.int r8), .val (.int r10), .val (.int r12), .val (.int r14), .val (.int r16), .val (.int r18), .val (.int r20), .val (.int r22), .val (.int r24), .val (.int r26), .val (.int r28), .val (.int r30), .val (.int r32), .val (.ref b33), .val (.ref b47), .unset, .unset, .unset] [(.int r26), (.int r18)])
  obtain ⟨_, _, ⟨T61, L61, k61, n61⟩, -, X61, ⟨Lc61, hQ61, l61, y61, z61⟩, st61⟩ := Jvm.LawKit.callS X49 hx (y := (⟨"java/lang/Math", "max", "(II)I"⟩ : MethodName)) hown (mvT hZ (hw _ (List.mem_of_getElem? (i := 13) rfl))) (mvT hZ (hw _ (List.mem_of_getElem? (i := 14) rfl))) (mvT hZ (hw _ (List.mem_of_getElem? (i := 11) rfl))) (mvT hZ (hw _ (List.mem_of_getElem? (i := 15) rfl))) (by decide) (backOf (W := 0) (own_rm4 l Z a0 hw [] r18 r26  T49.heap n0 (by omega) ) hZ (hw _ (List.mem_of_getElem? (i := 15) rfl)) (hw _ (List.mem_of_getElem? (i := 11) rfl)) (by decide) (by decide)) (g := (mkF m 182 #[.val (.long q_1), .second, .val (.long q_2), .second, .val (.long q_3), .second, .val (.long q_4), .second, .val (.int r2), .val (.int r4), .val (.int r6), .val (.int r8), .val (.int r10), .val (.int r12), .val (.int r14), .val (.int r16), .val (.int r18), .val (.int r20), .val (.int r22), .val (.int r24), .val (.int r26), .val (.int r28), .val (.int r30), .val (.int r32), .val (.ref b33), .val (.ref b47), .unset, .unset, .unset] [(.int r26), (.int r18)])) rfl (by rw [hml]; rfl) (argsL := [(.int r18), (.int r26)]) (rest := []) (lenOf own_pd2 rfl) rfl (by show 2 * 0 + _ ≤ _; exact Nat.le_of_eq rfl) (hb hby at_182) (fun _ _ => ⟨rfl, rfl, (by show k49 + _ ≤ _; rw [y49]; decide), (by show n49 + _ ≤ _; rw [z49]; decide)⟩)
  dsimp only [Pt.U, Pt.locs, Pt.cells, Pt.slots] at X61 l61 y61 z61 st61 hQ61
  have y61 : k61 = 2 := own_addeq y61 (congrArg (fun q => q) y49) rfl
  have z61 : n61 = 8 := own_addeq z61 (congrArg (fun q => q) z49) rfl
  obtain ⟨r62, rfl, N61q, hr_r62, e61⟩ := hQ61
  have N61 : Fr n0 L61 := by rw [l61]; exact Fr.app N49 N61q
  refine own_go (fun _ k => st61 _ k) ?_
  show own_Go _ _ _ _ T61 (mkF m 185 #[.val (.long q_1), .second, .val (.long q_2), .second, .val (.long q_3), .second, .val (.long q_4), .second, .val (.int r2), .val (.int r4), .val (.int r6), .val (.int r8), .val (.int r10), .val (.int r12), .val (.int r14), .val (.int r16), .val (.int r18), .val (.int r20), .val (.int r22), .val (.int r24), .val (.int r26), .val (.int r28), .val (.int r30), .val (.int r32), .val (.ref b33), .val (.ref b47), .unset, .unset, .unset] [(.int r62)])
  refine own_go (fun _ k => XS.iload X61.here hx rfl (hb hby at_185) rfl k) ?_
  show own_Go _ _ _ _ T61 (mkF m 187 #[.val (.long q_1), .second, .val (.long q_2), .second, .val (.long q_3), .second, .val (.long q_4), .second, .val (.int r2), .val (.int r4), .val (.int r6), .val (.int r8), .val (.int r10), .val (.int r12), .val (.int r14), .val (.int r16), .val (.int r18), .val (.int r20), .val (.int r22), .val (.int r24), .val (.int r26), .val (.int r28), .val (.int r30), .val (.int r32), .val (.ref b33), .val (.ref b47), .unset, .unset, .unset] [(.int r20), (.int r62)])
  refine own_go (fun _ k => XS.iload X61.here hx rfl (hb hby at_187) rfl k) ?_
  show own_Go _ _ _ _ T61 (mkF m 189 #[.val (.long q_1), .second, .val (.long q_2), .second, .val (.long q_3), .second, .val (.long q_4), .second, .val (.int r2), .val (.int r4), .val (.int r6), .val (.int r8), .val (.int r10), .val (.int r12), .val (.int r14), .val (.int r16), .val (.int r18), .val (.int r20), .val (.int r22), .val (.int r24), .val (.int r26), .val (.int r28), .val (.int r30), .val (.int r32), .val (.ref b33), .val (.ref b47), .unset, .unset, .unset] [(.int r28), (.int r20), (.int r62)])
  obtain ⟨_, _, ⟨T63, L63, k63, n63⟩, -, X63, ⟨Lc63, hQ63, l63, y63, z63⟩, st63⟩ := Jvm.LawKit.callS X61 hx (y := (⟨"java/lang/Math", "min", "(II)I"⟩ : MethodName)) hown (mvT hZ (hw _ (List.mem_of_getElem? (i := 9) rfl))) (mvT hZ (hw _ (List.mem_of_getElem? (i := 10) rfl))) (mvT hZ (hw _ (List.mem_of_getElem? (i := 11) rfl))) (mvT hZ (hw _ (List.mem_of_getElem? (i := 12) rfl))) (by decide) (backOf (W := 1) (own_rm3 l Z a0 hw [] r20 r28  T49.heap n0 (by omega) ) hZ (hw _ (List.mem_of_getElem? (i := 12) rfl)) (hw _ (List.mem_of_getElem? (i := 11) rfl)) (by decide) (by decide)) (g := (mkF m 189 #[.val (.long q_1), .second, .val (.long q_2), .second, .val (.long q_3), .second, .val (.long q_4), .second, .val (.int r2), .val (.int r4), .val (.int r6), .val (.int r8), .val (.int r10), .val (.int r12), .val (.int r14), .val (.int r16), .val (.int r18), .val (.int r20), .val (.int r22), .val (.int r24), .val (.int r26), .val (.int r28), .val (.int r30), .val (.int r32), .val (.ref b33), .val (.ref b47), .unset, .unset, .unset] [(.int r28), (.int r20), (.int r62)])) rfl (by rw [hml]; rfl) (argsL := [(.int r20), (.int r28)]) (rest := [(.int r62)]) (lenOf own_pd2 rfl) rfl (by show 2 * 0 + _ ≤ _; exact Nat.le_of_eq rfl) (hb hby at_189) (fun _ _ => ⟨rfl, e61, (by show k61 + _ ≤ _; rw [y61]; decide), (by show n61 + _ ≤ _; rw [z61]; decide)⟩)
  dsimp only [Pt.U, Pt.locs, Pt.cells, Pt.slots] at X63 l63 y63 z63 st63 hQ63
  have y63 : k63 = 2 := own_addeq y63 (congrArg (fun q => q) y61) rfl
  have z63 : n63 = 8 := own_addeq z63 (congrArg (fun q => q) z61) rfl
  obtain ⟨r64, rfl, N63q, hr_r64, e63⟩ := hQ63
  have N63 : Fr n0 L63 := by rw [l63]; exact Fr.app N61 N63q
  refine own_go (fun _ k => st63 _ k) ?_
  show own_Go _ _ _ _ T63 (mkF m 192 #[.val (.long q_1), .second, .val (.long q_2), .second, .val (.long q_3), .second, .val (.long q_4), .second, .val (.int r2), .val (.int r4), .val (.int r6), .val (.int r8), .val (.int r10), .val (.int r12), .val (.int r14), .val (.int r16), .val (.int r18), .val (.int r20), .val (.int r22), .val (.int r24), .val (.int r26), .val (.int r28), .val (.int r30), .val (.int r32), .val (.ref b33), .val (.ref b47), .unset, .unset, .unset] [(.int r64), (.int r62)])
  by_cases hc65 : r64 < r62
  · refine own_go (fun _ k => XS.icmpYes X63.here hx rfl (pc0 := 192) (pc' := 199) rfl (hb hby at_192) rfl (Jvm.Free.XT.ii_gt_t hc65) (by decide) (by decide) k) ?_
    show own_Go _ _ _ _ T63 (mkF m 199 #[.val (.long q_1), .second, .val (.long q_2), .second, .val (.long q_3), .second, .val (.long q_4), .second, .val (.int r2), .val (.int r4), .val (.int r6), .val (.int r8), .val (.int r10), .val (.int r12), .val (.int r14), .val (.int r16), .val (.int r18), .val (.int r20), .val (.int r22), .val (.int r24), .val (.int r26), .val (.int r28), .val (.int r30), .val (.int r32), .val (.ref b33), .val (.ref b47), .unset, .unset, .unset] [])
    refine own_go (fun _ k => XS.iconst X63.here hx rfl (hb hby at_199) k) ?_
    show own_Go _ _ _ _ T63 (mkF m 200 #[.val (.long q_1), .second, .val (.long q_2), .second, .val (.long q_3), .second, .val (.long q_4), .second, .val (.int r2), .val (.int r4), .val (.int r6), .val (.int r8), .val (.int r10), .val (.int r12), .val (.int r14), .val (.int r16), .val (.int r18), .val (.int r20), .val (.int r22), .val (.int r24), .val (.int r26), .val (.int r28), .val (.int r30), .val (.int r32), .val (.ref b33), .val (.ref b47), .unset, .unset, .unset] [(.int (0 : Int32))])
    refine own_go (fun _ k => XS.istore X63.here hx rfl (hb hby at_200) rfl (l' := #[.val (.long q_1), .second, .val (.long q_2), .second, .val (.long q_3), .second, .val (.long q_4), .second, .val (.int r2), .val (.int r4), .val (.int r6), .val (.int r8), .val (.int r10), .val (.int r12), .val (.int r14), .val (.int r16), .val (.int r18), .val (.int r20), .val (.int r22), .val (.int r24), .val (.int r26), .val (.int r28), .val (.int r30), .val (.int r32), .val (.ref b33), .val (.ref b47), .val (.int (0 : Int32)), .unset, .unset]) rfl k) ?_
    show own_Go _ _ _ _ T63 (mkF m 202 #[.val (.long q_1), .second, .val (.long q_2), .second, .val (.long q_3), .second, .val (.long q_4), .second, .val (.int r2), .val (.int r4), .val (.int r6), .val (.int r8), .val (.int r10), .val (.int r12), .val (.int r14), .val (.int r16), .val (.int r18), .val (.int r20), .val (.int r22), .val (.int r24), .val (.int r26), .val (.int r28), .val (.int r30), .val (.int r32), .val (.ref b33), .val (.ref b47), .val (.int (0 : Int32)), .unset, .unset] [])
    refine own_go (fun _ k => XS.iload X63.here hx rfl (hb hby at_202) rfl k) ?_
    show own_Go _ _ _ _ T63 (mkF m 204 #[.val (.long q_1), .second, .val (.long q_2), .second, .val (.long q_3), .second, .val (.long q_4), .second, .val (.int r2), .val (.int r4), .val (.int r6), .val (.int r8), .val (.int r10), .val (.int r12), .val (.int r14), .val (.int r16), .val (.int r18), .val (.int r20), .val (.int r22), .val (.int r24), .val (.int r26), .val (.int r28), .val (.int r30), .val (.int r32), .val (.ref b33), .val (.ref b47), .val (.int (0 : Int32)), .unset, .unset] [(.int r22)])
    refine own_go (fun _ k => XS.iload X63.here hx rfl (hb hby at_204) rfl k) ?_
    show own_Go _ _ _ _ T63 (mkF m 206 #[.val (.long q_1), .second, .val (.long q_2), .second, .val (.long q_3), .second, .val (.long q_4), .second, .val (.int r2), .val (.int r4), .val (.int r6), .val (.int r8), .val (.int r10), .val (.int r12), .val (.int r14), .val (.int r16), .val (.int r18), .val (.int r20), .val (.int r22), .val (.int r24), .val (.int r26), .val (.int r28), .val (.int r30), .val (.int r32), .val (.ref b33), .val (.ref b47), .val (.int (0 : Int32)), .unset, .unset] [(.int r30), (.int r22)])
    obtain ⟨_, _, ⟨T66, L66, k66, n66⟩, -, X66, ⟨Lc66, hQ66, l66, y66, z66⟩, st66⟩ := Jvm.LawKit.callS X63 hx (y := (⟨"java/lang/Math", "max", "(II)I"⟩ : MethodName)) hown (mvT hZ (hw _ (List.mem_of_getElem? (i := 13) rfl))) (mvT hZ (hw _ (List.mem_of_getElem? (i := 14) rfl))) (mvT hZ (hw _ (List.mem_of_getElem? (i := 11) rfl))) (mvT hZ (hw _ (List.mem_of_getElem? (i := 15) rfl))) (by decide) (backOf (W := 0) (own_rm4 l Z a0 hw [] r22 r30  T49.heap n0 (by omega) ) hZ (hw _ (List.mem_of_getElem? (i := 15) rfl)) (hw _ (List.mem_of_getElem? (i := 11) rfl)) (by decide) (by decide)) (g := (mkF m 206 #[.val (.long q_1), .second, .val (.long q_2), .second, .val (.long q_3), .second, .val (.long q_4), .second, .val (.int r2), .val (.int r4), .val (.int r6), .val (.int r8), .val (.int r10), .val (.int r12), .val (.int r14), .val (.int r16), .val (.int r18), .val (.int r20), .val (.int r22), .val (.int r24), .val (.int r26), .val (.int r28), .val (.int r30), .val (.int r32), .val (.ref b33), .val (.ref b47), .val (.int (0 : Int32)), .unset, .unset] [(.int r30), (.int r22)])) rfl (by rw [hml]; rfl) (argsL := [(.int r22), (.int r30)]) (rest := []) (lenOf own_pd2 rfl) rfl (by show 2 * 0 + _ ≤ _; exact Nat.le_of_eq rfl) (hb hby at_206) (fun _ _ => ⟨rfl, e63, (by show k63 + _ ≤ _; rw [y63]; decide), (by show n63 + _ ≤ _; rw [z63]; decide)⟩)
    dsimp only [Pt.U, Pt.locs, Pt.cells, Pt.slots] at X66 l66 y66 z66 st66 hQ66
    have y66 : k66 = 2 := own_addeq y66 (congrArg (fun q => q) y63) rfl
    have z66 : n66 = 8 := own_addeq z66 (congrArg (fun q => q) z63) rfl
    obtain ⟨r67, rfl, N66q, hr_r67, e66⟩ := hQ66
    have N66 : Fr n0 L66 := by rw [l66]; exact Fr.app N63 N66q
    refine own_go (fun _ k => st66 _ k) ?_
    show own_Go _ _ _ _ T66 (mkF m 209 #[.val (.long q_1), .second, .val (.long q_2), .second, .val (.long q_3), .second, .val (.long q_4), .second, .val (.int r2), .val (.int r4), .val (.int r6), .val (.int r8), .val (.int r10), .val (.int r12), .val (.int r14), .val (.int r16), .val (.int r18), .val (.int r20), .val (.int r22), .val (.int r24), .val (.int r26), .val (.int r28), .val (.int r30), .val (.int r32), .val (.ref b33), .val (.ref b47), .val (.int (0 : Int32)), .unset, .unset] [(.int r67)])
    refine own_go (fun _ k => XS.iload X66.here hx rfl (hb hby at_209) rfl k) ?_
    show own_Go _ _ _ _ T66 (mkF m 211 #[.val (.long q_1), .second, .val (.long q_2), .second, .val (.long q_3), .second, .val (.long q_4), .second, .val (.int r2), .val (.int r4), .val (.int r6), .val (.int r8), .val (.int r10), .val (.int r12), .val (.int r14), .val (.int r16), .val (.int r18), .val (.int r20), .val (.int r22), .val (.int r24), .val (.int r26), .val (.int r28), .val (.int r30), .val (.int r32), .val (.ref b33), .val (.ref b47), .val (.int (0 : Int32)), .unset, .unset] [(.int r24), (.int r67)])
    refine own_go (fun _ k => XS.iload X66.here hx rfl (hb hby at_211) rfl k) ?_
    show own_Go _ _ _ _ T66 (mkF m 213 #[.val (.long q_1), .second, .val (.long q_2), .second, .val (.long q_3), .second, .val (.long q_4), .second, .val (.int r2), .val (.int r4), .val (.int r6), .val (.int r8), .val (.int r10), .val (.int r12), .val (.int r14), .val (.int r16), .val (.int r18), .val (.int r20), .val (.int r22), .val (.int r24), .val (.int r26), .val (.int r28), .val (.int r30), .val (.int r32), .val (.ref b33), .val (.ref b47), .val (.int (0 : Int32)), .unset, .unset] [(.int r32), (.int r24), (.int r67)])
    obtain ⟨_, _, ⟨T68, L68, k68, n68⟩, -, X68, ⟨Lc68, hQ68, l68, y68, z68⟩, st68⟩ := Jvm.LawKit.callS X66 hx (y := (⟨"java/lang/Math", "min", "(II)I"⟩ : MethodName)) hown (mvT hZ (hw _ (List.mem_of_getElem? (i := 9) rfl))) (mvT hZ (hw _ (List.mem_of_getElem? (i := 10) rfl))) (mvT hZ (hw _ (List.mem_of_getElem? (i := 11) rfl))) (mvT hZ (hw _ (List.mem_of_getElem? (i := 12) rfl))) (by decide) (backOf (W := 1) (own_rm3 l Z a0 hw [] r24 r32  T49.heap n0 (by omega) ) hZ (hw _ (List.mem_of_getElem? (i := 12) rfl)) (hw _ (List.mem_of_getElem? (i := 11) rfl)) (by decide) (by decide)) (g := (mkF m 213 #[.val (.long q_1), .second, .val (.long q_2), .second, .val (.long q_3), .second, .val (.long q_4), .second, .val (.int r2), .val (.int r4), .val (.int r6), .val (.int r8), .val (.int r10), .val (.int r12), .val (.int r14), .val (.int r16), .val (.int r18), .val (.int r20), .val (.int r22), .val (.int r24), .val (.int r26), .val (.int r28), .val (.int r30), .val (.int r32), .val (.ref b33), .val (.ref b47), .val (.int (0 : Int32)), .unset, .unset] [(.int r32), (.int r24), (.int r67)])) rfl (by rw [hml]; rfl) (argsL := [(.int r24), (.int r32)]) (rest := [(.int r67)]) (lenOf own_pd2 rfl) rfl (by show 2 * 0 + _ ≤ _; exact Nat.le_of_eq rfl) (hb hby at_213) (fun _ _ => ⟨rfl, e66, (by show k66 + _ ≤ _; rw [y66]; decide), (by show n66 + _ ≤ _; rw [z66]; decide)⟩)
    dsimp only [Pt.U, Pt.locs, Pt.cells, Pt.slots] at X68 l68 y68 z68 st68 hQ68
    have y68 : k68 = 2 := own_addeq y68 (congrArg (fun q => q) y66) rfl
    have z68 : n68 = 8 := own_addeq z68 (congrArg (fun q => q) z66) rfl
    obtain ⟨r69, rfl, N68q, hr_r69, e68⟩ := hQ68
    have N68 : Fr n0 L68 := by rw [l68]; exact Fr.app N66 N68q
    refine own_go (fun _ k => st68 _ k) ?_
    show own_Go _ _ _ _ T68 (mkF m 216 #[.val (.long q_1), .second, .val (.long q_2), .second, .val (.long q_3), .second, .val (.long q_4), .second, .val (.int r2), .val (.int r4), .val (.int r6), .val (.int r8), .val (.int r10), .val (.int r12), .val (.int r14), .val (.int r16), .val (.int r18), .val (.int r20), .val (.int r22), .val (.int r24), .val (.int r26), .val (.int r28), .val (.int r30), .val (.int r32), .val (.ref b33), .val (.ref b47), .val (.int (0 : Int32)), .unset, .unset] [(.int r69), (.int r67)])
    by_cases hc70 : r69 < r67
    · refine own_go (fun _ k => XS.icmpYes X68.here hx rfl (pc0 := 216) (pc' := 223) rfl (hb hby at_216) rfl (Jvm.Free.XT.ii_gt_t hc70) (by decide) (by decide) k) ?_
      show own_Go _ _ _ _ T68 (mkF m 223 #[.val (.long q_1), .second, .val (.long q_2), .second, .val (.long q_3), .second, .val (.long q_4), .second, .val (.int r2), .val (.int r4), .val (.int r6), .val (.int r8), .val (.int r10), .val (.int r12), .val (.int r14), .val (.int r16), .val (.int r18), .val (.int r20), .val (.int r22), .val (.int r24), .val (.int r26), .val (.int r28), .val (.int r30), .val (.int r32), .val (.ref b33), .val (.ref b47), .val (.int (0 : Int32)), .unset, .unset] [])
      refine own_go (fun _ k => XS.iconst X68.here hx rfl (hb hby at_223) k) ?_
      show own_Go _ _ _ _ T68 (mkF m 224 #[.val (.long q_1), .second, .val (.long q_2), .second, .val (.long q_3), .second, .val (.long q_4), .second, .val (.int r2), .val (.int r4), .val (.int r6), .val (.int r8), .val (.int r10), .val (.int r12), .val (.int r14), .val (.int r16), .val (.int r18), .val (.int r20), .val (.int r22), .val (.int r24), .val (.int r26), .val (.int r28), .val (.int r30), .val (.int r32), .val (.ref b33), .val (.ref b47), .val (.int (0 : Int32)), .unset, .unset] [(.int (0 : Int32))])
      refine own_go (fun _ k => XS.istore X68.here hx rfl (hb hby at_224) rfl (l' := #[.val (.long q_1), .second, .val (.long q_2), .second, .val (.long q_3), .second, .val (.long q_4), .second, .val (.int r2), .val (.int r4), .val (.int r6), .val (.int r8), .val (.int r10), .val (.int r12), .val (.int r14), .val (.int r16), .val (.int r18), .val (.int r20), .val (.int r22), .val (.int r24), .val (.int r26), .val (.int r28), .val (.int r30), .val (.int r32), .val (.ref b33), .val (.ref b47), .val (.int (0 : Int32)), .val (.int (0 : Int32)), .unset]) rfl k) ?_
      show own_Go _ _ _ _ T68 (mkF m 226 #[.val (.long q_1), .second, .val (.long q_2), .second, .val (.long q_3), .second, .val (.long q_4), .second, .val (.int r2), .val (.int r4), .val (.int r6), .val (.int r8), .val (.int r10), .val (.int r12), .val (.int r14), .val (.int r16), .val (.int r18), .val (.int r20), .val (.int r22), .val (.int r24), .val (.int r26), .val (.int r28), .val (.int r30), .val (.int r32), .val (.ref b33), .val (.ref b47), .val (.int (0 : Int32)), .val (.int (0 : Int32)), .unset] [])
      refine own_go (fun _ k => XS.iload X68.here hx rfl (hb hby at_226) rfl k) ?_
      show own_Go _ _ _ _ T68 (mkF m 228 #[.val (.long q_1), .second, .val (.long q_2), .second, .val (.long q_3), .second, .val (.long q_4), .second, .val (.int r2), .val (.int r4), .val (.int r6), .val (.int r8), .val (.int r10), .val (.int r12), .val (.int r14), .val (.int r16), .val (.int r18), .val (.int r20), .val (.int r22), .val (.int r24), .val (.int r26), .val (.int r28), .val (.int r30), .val (.int r32), .val (.ref b33), .val (.ref b47), .val (.int (0 : Int32)), .val (.int (0 : Int32)), .unset] [(.int (0 : Int32))])
      have hc71 : (0 : Int32) = 0 := by decide
      refine own_go (fun _ k => XS.ifYes X68.here hx rfl (pc0 := 228) (pc' := 240) rfl (hb hby at_228) rfl (Jvm.Free.XT.i0_eq_t hc71) (by decide) (by decide) k) ?_
      show own_Go _ _ _ _ T68 (mkF m 240 #[.val (.long q_1), .second, .val (.long q_2), .second, .val (.long q_3), .second, .val (.long q_4), .second, .val (.int r2), .val (.int r4), .val (.int r6), .val (.int r8), .val (.int r10), .val (.int r12), .val (.int r14), .val (.int r16), .val (.int r18), .val (.int r20), .val (.int r22), .val (.int r24), .val (.int r26), .val (.int r28), .val (.int r30), .val (.int r32), .val (.ref b33), .val (.ref b47), .val (.int (0 : Int32)), .val (.int (0 : Int32)), .unset] [])
      refine own_go (fun _ k => XS.iconst X68.here hx rfl (hb hby at_240) k) ?_
      show own_Go _ _ _ _ T68 (mkF m 241 #[.val (.long q_1), .second, .val (.long q_2), .second, .val (.long q_3), .second, .val (.long q_4), .second, .val (.int r2), .val (.int r4), .val (.int r6), .val (.int r8), .val (.int r10), .val (.int r12), .val (.int r14), .val (.int r16), .val (.int r18), .val (.int r20), .val (.int r22), .val (.int r24), .val (.int r26), .val (.int r28), .val (.int r30), .val (.int r32), .val (.ref b33), .val (.ref b47), .val (.int (0 : Int32)), .val (.int (0 : Int32)), .unset] [(.int (0 : Int32))])
      refine own_go (fun _ k => XS.istore X68.here hx rfl (hb hby at_241) rfl (l' := #[.val (.long q_1), .second, .val (.long q_2), .second, .val (.long q_3), .second, .val (.long q_4), .second, .val (.int r2), .val (.int r4), .val (.int r6), .val (.int r8), .val (.int r10), .val (.int r12), .val (.int r14), .val (.int r16), .val (.int r18), .val (.int r20), .val (.int r22), .val (.int r24), .val (.int r26), .val (.int r28), .val (.int r30), .val (.int r32), .val (.ref b33), .val (.ref b47), .val (.int (0 : Int32)), .val (.int (0 : Int32)), .val (.int (0 : Int32))]) rfl k) ?_
      show own_Go _ _ _ _ T68 (mkF m 243 #[.val (.long q_1), .second, .val (.long q_2), .second, .val (.long q_3), .second, .val (.long q_4), .second, .val (.int r2), .val (.int r4), .val (.int r6), .val (.int r8), .val (.int r10), .val (.int r12), .val (.int r14), .val (.int r16), .val (.int r18), .val (.int r20), .val (.int r22), .val (.int r24), .val (.int r26), .val (.int r28), .val (.int r30), .val (.int r32), .val (.ref b33), .val (.ref b47), .val (.int (0 : Int32)), .val (.int (0 : Int32)), .val (.int (0 : Int32))] [])
      refine own_go (fun _ k => XS.aload X68.here hx rfl (hb hby at_243) rfl rfl k) ?_
      show own_Go _ _ _ _ T68 (mkF m 245 #[.val (.long q_1), .second, .val (.long q_2), .second, .val (.long q_3), .second, .val (.long q_4), .second, .val (.int r2), .val (.int r4), .val (.int r6), .val (.int r8), .val (.int r10), .val (.int r12), .val (.int r14), .val (.int r16), .val (.int r18), .val (.int r20), .val (.int r22), .val (.int r24), .val (.int r26), .val (.int r28), .val (.int r30), .val (.int r32), .val (.ref b33), .val (.ref b47), .val (.int (0 : Int32)), .val (.int (0 : Int32)), .val (.int (0 : Int32))] [(.ref b33)])
      refine own_go (fun _ k => XS.aload X68.here hx rfl (hb hby at_245) rfl rfl k) ?_
      show own_Go _ _ _ _ T68 (mkF m 247 #[.val (.long q_1), .second, .val (.long q_2), .second, .val (.long q_3), .second, .val (.long q_4), .second, .val (.int r2), .val (.int r4), .val (.int r6), .val (.int r8), .val (.int r10), .val (.int r12), .val (.int r14), .val (.int r16), .val (.int r18), .val (.int r20), .val (.int r22), .val (.int r24), .val (.int r26), .val (.int r28), .val (.int r30), .val (.int r32), .val (.ref b33), .val (.ref b47), .val (.int (0 : Int32)), .val (.int (0 : Int32)), .val (.int (0 : Int32))] [(.ref b47), (.ref b33)])
      have f72 : Fld Z T49.heap b33 "com/example/ratebook/ratebook/CellRange" "firstRow" "I" (.int r18) := ((f37.ext E47).keep K49q (ninS (own_ne (by omega)) nin0))
      have f73 : Fld Z T49.heap b33 "com/example/ratebook/ratebook/CellRange" "lastRow" "I" (.int r20) := ((f39.ext E47).keep K49q (ninS (own_ne (by omega)) nin0))
      have f74 : Fld Z T49.heap b33 "com/example/ratebook/ratebook/CellRange" "firstColumn" "I" (.int r22) := ((f38.ext E47).keep K49q (ninS (own_ne (by omega)) nin0))
      have f75 : Fld Z T49.heap b33 "com/example/ratebook/ratebook/CellRange" "lastColumn" "I" (.int r24) := ((f40.ext E47).keep K49q (ninS (own_ne (by omega)) nin0))
      have f77 : Exa Z T49.heap b33 "com/example/ratebook/ratebook/CellRange" := ((f36.ext E47).keep K49q)
      obtain ⟨cq76, kq76, q76a, q76b, q76c⟩ := isOf hZ e68 f77
      obtain ⟨_, _, ⟨T76, L76, k76, n76⟩, -, X76, ⟨Lc76, hQ76, l76, y76, z76⟩, st76⟩ := X68.virtualBack hx (y := (⟨"com/example/ratebook/ratebook/CellRange", "overlaps", "(Lcom/example/ratebook/ratebook/CellRange;)Z"⟩ : MethodName)) (z := (⟨"com/example/ratebook/ratebook/CellRange", "overlaps", "(Lcom/example/ratebook/ratebook/CellRange;)Z"⟩ : MethodName)) hown (mvT hZ (hw _ (List.mem_of_getElem? (i := 38) rfl))) (mvT hZ (hw _ (List.mem_of_getElem? (i := 39) rfl))) (notFace_of_selects (args := #[]) (mvT hZ (hw _ (List.mem_of_getElem? (i := 41) rfl)))) (mvT hZ (hw _ (List.mem_of_getElem? (i := 41) rfl))) (mvT hZ (hw _ (List.mem_of_getElem? (i := 40) rfl))) (by decide) (backOf (W := 0) (own_rm8 l Z a0 hw [] b33 b47 r18 r28 r26 r20 r22 r32 r30 r24 T49.heap n0 (by omega) f72 f53 f51 f73 f74 f54 f52 f75) hZ (hw _ (List.mem_of_getElem? (i := 42) rfl)) (hw _ (List.mem_of_getElem? (i := 18) rfl)) (by decide) (by decide)) q76a q76c (g := (mkF m 247 #[.val (.long q_1), .second, .val (.long q_2), .second, .val (.long q_3), .second, .val (.long q_4), .second, .val (.int r2), .val (.int r4), .val (.int r6), .val (.int r8), .val (.int r10), .val (.int r12), .val (.int r14), .val (.int r16), .val (.int r18), .val (.int r20), .val (.int r22), .val (.int r24), .val (.int r26), .val (.int r28), .val (.int r30), .val (.int r32), .val (.ref b33), .val (.ref b47), .val (.int (0 : Int32)), .val (.int (0 : Int32)), .val (.int (0 : Int32))] [(.ref b47), (.ref b33)])) rfl (by rw [hml]; rfl) (Steps.refl _) (argsL := [(.ref b47)]) (rest := []) (lenOf own_pd4 rfl) rfl (by show 2 * 0 + _ ≤ _; exact Nat.le_of_eq rfl) (hb hby at_247) (fun _ _ => ⟨rfl, e68, (by show k68 + _ ≤ _; rw [y68]; decide), (by show n68 + _ ≤ _; rw [z68]; decide)⟩)
      dsimp only [Pt.U, Pt.locs, Pt.cells, Pt.slots] at X76 l76 y76 z76 st76 hQ76
      have y76 : k76 = 2 := own_addeq y76 (congrArg (fun q => q) y68) rfl
      have z76 : n76 = 8 := own_addeq z76 (congrArg (fun q => q) z68) rfl
      obtain ⟨r78, rfl, N76q, hr_r78, e76⟩ := hQ76
      have N76 : Fr n0 L76 := by rw [l76]; exact Fr.app N68 N76q
      refine own_go (fun _ k => st76.trans k) ?_
      show own_Go _ _ _ _ T76 (mkF m 250 #[.val (.long q_1), .second, .val (.long q_2), .second, .val (.long q_3), .second, .val (.long q_4), .second, .val (.int r2), .val (.int r4), .val (.int r6), .val (.int r8), .val (.int r10), .val (.int r12), .val (.int r14), .val (.int r16), .val (.int r18), .val (.int r20), .val (.int r22), .val (.int r24), .val (.int r26), .val (.int r28), .val (.int r30), .val (.int r32), .val (.ref b33), .val (.ref b47), .val (.int (0 : Int32)), .val (.int (0 : Int32)), .val (.int (0 : Int32))] [(.int r78)])
      refine own_go (fun _ k => XS.iload X76.here hx rfl (hb hby at_250) rfl k) ?_
      show own_Go _ _ _ _ T76 (mkF m 252 #[.val (.long q_1), .second, .val (.long q_2), .second, .val (.long q_3), .second, .val (.long q_4), .second, .val (.int r2), .val (.int r4), .val (.int r6), .val (.int r8), .val (.int r10), .val (.int r12), .val (.int r14), .val (.int r16), .val (.int r18), .val (.int r20), .val (.int r22), .val (.int r24), .val (.int r26), .val (.int r28), .val (.int r30), .val (.int r32), .val (.ref b33), .val (.ref b47), .val (.int (0 : Int32)), .val (.int (0 : Int32)), .val (.int (0 : Int32))] [(.int (0 : Int32)), (.int r78)])
      have hc79 : r78 = (0 : Int32) := own_t0_0 q_1 q_2 q_3 q_4 r2 r4 r6 r8 r10 r12 r14 r16 r18 r20 r22 r24 r26 r28 r30 r32 r62 r64 r67 r69 r78 hr_r2 hr_r4 hr_r6 hr_r8 hr_r10 hr_r12 hr_r14 hr_r16 hr_r18 hr_r20 hr_r22 hr_r24 hr_r26 hr_r28 hr_r30 hr_r32 hr_r62 hr_r64 hc65 hr_r67 hr_r69 hc70 hr_r78
      refine own_go (fun _ k => XS.icmpNo X76.here hx rfl (hb hby at_252) rfl (Jvm.Free.XT.ii_ne_f hc79) k) ?_
      show own_Go _ _ _ _ T76 (mkF m 255 #[.val (.long q_1), .second, .val (.long q_2), .second, .val (.long q_3), .second, .val (.long q_4), .second, .val (.int r2), .val (.int r4), .val (.int r6), .val (.int r8), .val (.int r10), .val (.int r12), .val (.int r14), .val (.int r16), .val (.int r18), .val (.int r20), .val (.int r22), .val (.int r24), .val (.int r26), .val (.int r28), .val (.int r30), .val (.int r32), .val (.ref b33), .val (.ref b47), .val (.int (0 : Int32)), .val (.int (0 : Int32)), .val (.int (0 : Int32))] [])
      refine own_go (fun _ k => XS.aload X76.here hx rfl (hb hby at_255) rfl rfl k) ?_
      show own_Go _ _ _ _ T76 (mkF m 257 #[.val (.long q_1), .second, .val (.long q_2), .second, .val (.long q_3), .second, .val (.long q_4), .second, .val (.int r2), .val (.int r4), .val (.int r6), .val (.int r8), .val (.int r10), .val (.int r12), .val (.int r14), .val (.int r16), .val (.int r18), .val (.int r20), .val (.int r22), .val (.int r24), .val (.int r26), .val (.int r28), .val (.int r30), .val (.int r32), .val (.ref b33), .val (.ref b47), .val (.int (0 : Int32)), .val (.int (0 : Int32)), .val (.int (0 : Int32))] [(.ref b47)])
      refine own_go (fun _ k => XS.aload X76.here hx rfl (hb hby at_257) rfl rfl k) ?_
      show own_Go _ _ _ _ T76 (mkF m 259 #[.val (.long q_1), .second, .val (.long q_2), .second, .val (.long q_3), .second, .val (.long q_4), .second, .val (.int r2), .val (.int r4), .val (.int r6), .val (.int r8), .val (.int r10), .val (.int r12), .val (.int r14), .val (.int r16), .val (.int r18), .val (.int r20), .val (.int r22), .val (.int r24), .val (.int r26), .val (.int r28), .val (.int r30), .val (.int r32), .val (.ref b33), .val (.ref b47), .val (.int (0 : Int32)), .val (.int (0 : Int32)), .val (.int (0 : Int32))] [(.ref b33), (.ref b47)])
      obtain ⟨cq80, kq80, q80a, q80b, q80c⟩ := isOf hZ e76 f50
      obtain ⟨_, _, ⟨T80, L80, k80, n80⟩, -, X80, ⟨Lc80, hQ80, l80, y80, z80⟩, st80⟩ := X76.virtualBack hx (y := (⟨"com/example/ratebook/ratebook/CellRange", "overlaps", "(Lcom/example/ratebook/ratebook/CellRange;)Z"⟩ : MethodName)) (z := (⟨"com/example/ratebook/ratebook/CellRange", "overlaps", "(Lcom/example/ratebook/ratebook/CellRange;)Z"⟩ : MethodName)) hown (mvT hZ (hw _ (List.mem_of_getElem? (i := 38) rfl))) (mvT hZ (hw _ (List.mem_of_getElem? (i := 39) rfl))) (notFace_of_selects (args := #[]) (mvT hZ (hw _ (List.mem_of_getElem? (i := 41) rfl)))) (mvT hZ (hw _ (List.mem_of_getElem? (i := 41) rfl))) (mvT hZ (hw _ (List.mem_of_getElem? (i := 40) rfl))) (by decide) (backOf (W := 0) (own_rm8 l Z a0 hw [] b47 b33 r26 r20 r18 r28 r30 r24 r22 r32 T49.heap n0 (by omega) f51 f73 f72 f53 f52 f75 f74 f54) hZ (hw _ (List.mem_of_getElem? (i := 42) rfl)) (hw _ (List.mem_of_getElem? (i := 18) rfl)) (by decide) (by decide)) q80a q80c (g := (mkF m 259 #[.val (.long q_1), .second, .val (.long q_2), .second, .val (.long q_3), .second, .val (.long q_4), .second, .val (.int r2), .val (.int r4), .val (.int r6), .val (.int r8), .val (.int r10), .val (.int r12), .val (.int r14), .val (.int r16), .val (.int r18), .val (.int r20), .val (.int r22), .val (.int r24), .val (.int r26), .val (.int r28), .val (.int r30), .val (.int r32), .val (.ref b33), .val (.ref b47), .val (.int (0 : Int32)), .val (.int (0 : Int32)), .val (.int (0 : Int32))] [(.ref b33), (.ref b47)])) rfl (by rw [hml]; rfl) (Steps.refl _) (argsL := [(.ref b33)]) (rest := []) (lenOf own_pd4 rfl) rfl (by show 2 * 0 + _ ≤ _; exact Nat.le_of_eq rfl) (hb hby at_259) (fun _ _ => ⟨rfl, e76, (by show k76 + _ ≤ _; rw [y76]; decide), (by show n76 + _ ≤ _; rw [z76]; decide)⟩)
      dsimp only [Pt.U, Pt.locs, Pt.cells, Pt.slots] at X80 l80 y80 z80 st80 hQ80
      have y80 : k80 = 2 := own_addeq y80 (congrArg (fun q => q) y76) rfl
      have z80 : n80 = 8 := own_addeq z80 (congrArg (fun q => q) z76) rfl
      obtain ⟨r81, rfl, N80q, hr_r81, e80⟩ := hQ80
      have N80 : Fr n0 L80 := by rw [l80]; exact Fr.app N76 N80q
      refine own_go (fun _ k => st80.trans k) ?_
      show own_Go _ _ _ _ T80 (mkF m 262 #[.val (.long q_1), .second, .val (.long q_2), .second, .val (.long q_3), .second, .val (.long q_4), .second, .val (.int r2), .val (.int r4), .val (.int r6), .val (.int r8), .val (.int r10), .val (.int r12), .val (.int r14), .val (.int r16), .val (.int r18), .val (.int r20), .val (.int r22), .val (.int r24), .val (.int r26), .val (.int r28), .val (.int r30), .val (.int r32), .val (.ref b33), .val (.ref b47), .val (.int (0 : Int32)), .val (.int (0 : Int32)), .val (.int (0 : Int32))] [(.int r81)])
      refine own_go (fun _ k => XS.iload X80.here hx rfl (hb hby at_262) rfl k) ?_
      show own_Go _ _ _ _ T80 (mkF m 264 #[.val (.long q_1), .second, .val (.long q_2), .second, .val (.long q_3), .second, .val (.long q_4), .second, .val (.int r2), .val (.int r4), .val (.int r6), .val (.int r8), .val (.int r10), .val (.int r12), .val (.int r14), .val (.int r16), .val (.int r18), .val (.int r20), .val (.int r22), .val (.int r24), .val (.int r26), .val (.int r28), .val (.int r30), .val (.int r32), .val (.ref b33), .val (.ref b47), .val (.int (0 : Int32)), .val (.int (0 : Int32)), .val (.int (0 : Int32))] [(.int (0 : Int32)), (.int r81)])
      have hc82 : r81 = (0 : Int32) := own_t0_1 q_1 q_2 q_3 q_4 r2 r4 r6 r8 r10 r12 r14 r16 r18 r20 r22 r24 r26 r28 r30 r32 r62 r64 r67 r69 r78 r81 hr_r2 hr_r4 hr_r6 hr_r8 hr_r10 hr_r12 hr_r14 hr_r16 hr_r18 hr_r20 hr_r22 hr_r24 hr_r26 hr_r28 hr_r30 hr_r32 hr_r62 hr_r64 hc65 hr_r67 hr_r69 hc70 hr_r78 hc79 hr_r81
      refine own_go (fun _ k => XS.icmpNo X80.here hx rfl (hb hby at_264) rfl (Jvm.Free.XT.ii_ne_f hc82) k) ?_
      show own_Go _ _ _ _ T80 (mkF m 267 #[.val (.long q_1), .second, .val (.long q_2), .second, .val (.long q_3), .second, .val (.long q_4), .second, .val (.int r2), .val (.int r4), .val (.int r6), .val (.int r8), .val (.int r10), .val (.int r12), .val (.int r14), .val (.int r16), .val (.int r18), .val (.int r20), .val (.int r22), .val (.int r24), .val (.int r26), .val (.int r28), .val (.int r30), .val (.int r32), .val (.ref b33), .val (.ref b47), .val (.int (0 : Int32)), .val (.int (0 : Int32)), .val (.int (0 : Int32))] [])
      refine own_go (fun _ k => XS.iconst X80.here hx rfl (hb hby at_267) k) ?_
      show own_Go _ _ _ _ T80 (mkF m 268 #[.val (.long q_1), .second, .val (.long q_2), .second, .val (.long q_3), .second, .val (.long q_4), .second, .val (.int r2), .val (.int r4), .val (.int r6), .val (.int r8), .val (.int r10), .val (.int r12), .val (.int r14), .val (.int r16), .val (.int r18), .val (.int r20), .val (.int r22), .val (.int r24), .val (.int r26), .val (.int r28), .val (.int r30), .val (.int r32), .val (.ref b33), .val (.ref b47), .val (.int (0 : Int32)), .val (.int (0 : Int32)), .val (.int (0 : Int32))] [(.int (1 : Int32))])
      refine own_go (fun _ k => XS.goto X80.here hx rfl (pc0 := 268) (pc' := 272) rfl (hb hby at_268) (by decide) (by decide) k) ?_
      show own_Go _ _ _ _ T80 (mkF m 272 #[.val (.long q_1), .second, .val (.long q_2), .second, .val (.long q_3), .second, .val (.long q_4), .second, .val (.int r2), .val (.int r4), .val (.int r6), .val (.int r8), .val (.int r10), .val (.int r12), .val (.int r14), .val (.int r16), .val (.int r18), .val (.int r20), .val (.int r22), .val (.int r24), .val (.int r26), .val (.int r28), .val (.int r30), .val (.int r32), .val (.ref b33), .val (.ref b47), .val (.int (0 : Int32)), .val (.int (0 : Int32)), .val (.int (0 : Int32))] [(.int (1 : Int32))])
      obtain ⟨fs, hr, hrun, hended, hW, hsame⟩ := X80.leave (v := some (.int (1 : Int32))) (fun h => by rw [Bd.returns] at h; cases h)
      refine ⟨_, _, retOut X80 hx Bd.returns rfl (Or.inl ⟨rfl, Or.inr (Or.inl rfl), _, rfl⟩) (hb hby at_272) hr, hrun, hended, _, _, rfl, ?_, ⟨_, rfl⟩, hW, hsame.mono (by rw [y80]; decide) (by rw [z80]; decide)⟩
      show own_Q0 Z q_1 q_2 q_3 q_4 h0 n0 _ T80.heap _
      rw [e80]
      exact ⟨rfl, N80⟩
    · refine own_go (fun _ k => XS.icmpNo X68.here hx rfl (hb hby at_216) rfl (Jvm.Free.XT.ii_gt_f hc70) k) ?_
      show own_Go _ _ _ _ T68 (mkF m 219 #[.val (.long q_1), .second, .val (.long q_2), .second, .val (.long q_3), .second, .val (.long q_4), .second, .val (.int r2), .val (.int r4), .val (.int r6), .val (.int r8), .val (.int r10), .val (.int r12), .val (.int r14), .val (.int r16), .val (.int r18), .val (.int r20), .val (.int r22), .val (.int r24), .val (.int r26), .val (.int r28), .val (.int r30), .val (.int r32), .val (.ref b33), .val (.ref b47), .val (.int (0 : Int32)), .unset, .unset] [])
      refine own_go (fun _ k => XS.iconst X68.here hx rfl (hb hby at_219) k) ?_
      show own_Go _ _ _ _ T68 (mkF m 220 #[.val (.long q_1), .second, .val (.long q_2), .second, .val (.long q_3), .second, .val (.long q_4), .second, .val (.int r2), .val (.int r4), .val (.int r6), .val (.int r8), .val (.int r10), .val (.int r12), .val (.int r14), .val (.int r16), .val (.int r18), .val (.int r20), .val (.int r22), .val (.int r24), .val (.int r26), .val (.int r28), .val (.int r30), .val (.int r32), .val (.ref b33), .val (.ref b47), .val (.int (0 : Int32)), .unset, .unset] [(.int (1 : Int32))])
      refine own_go (fun _ k => XS.goto X68.here hx rfl (pc0 := 220) (pc' := 224) rfl (hb hby at_220) (by decide) (by decide) k) ?_
      show own_Go _ _ _ _ T68 (mkF m 224 #[.val (.long q_1), .second, .val (.long q_2), .second, .val (.long q_3), .second, .val (.long q_4), .second, .val (.int r2), .val (.int r4), .val (.int r6), .val (.int r8), .val (.int r10), .val (.int r12), .val (.int r14), .val (.int r16), .val (.int r18), .val (.int r20), .val (.int r22), .val (.int r24), .val (.int r26), .val (.int r28), .val (.int r30), .val (.int r32), .val (.ref b33), .val (.ref b47), .val (.int (0 : Int32)), .unset, .unset] [(.int (1 : Int32))])
      refine own_go (fun _ k => XS.istore X68.here hx rfl (hb hby at_224) rfl (l' := #[.val (.long q_1), .second, .val (.long q_2), .second, .val (.long q_3), .second, .val (.long q_4), .second, .val (.int r2), .val (.int r4), .val (.int r6), .val (.int r8), .val (.int r10), .val (.int r12), .val (.int r14), .val (.int r16), .val (.int r18), .val (.int r20), .val (.int r22), .val (.int r24), .val (.int r26), .val (.int r28), .val (.int r30), .val (.int r32), .val (.ref b33), .val (.ref b47), .val (.int (0 : Int32)), .val (.int (1 : Int32)), .unset]) rfl k) ?_
      show own_Go _ _ _ _ T68 (mkF m 226 #[.val (.long q_1), .second, .val (.long q_2), .second, .val (.long q_3), .second, .val (.long q_4), .second, .val (.int r2), .val (.int r4), .val (.int r6), .val (.int r8), .val (.int r10), .val (.int r12), .val (.int r14), .val (.int r16), .val (.int r18), .val (.int r20), .val (.int r22), .val (.int r24), .val (.int r26), .val (.int r28), .val (.int r30), .val (.int r32), .val (.ref b33), .val (.ref b47), .val (.int (0 : Int32)), .val (.int (1 : Int32)), .unset] [])
      refine own_go (fun _ k => XS.iload X68.here hx rfl (hb hby at_226) rfl k) ?_
      show own_Go _ _ _ _ T68 (mkF m 228 #[.val (.long q_1), .second, .val (.long q_2), .second, .val (.long q_3), .second, .val (.long q_4), .second, .val (.int r2), .val (.int r4), .val (.int r6), .val (.int r8), .val (.int r10), .val (.int r12), .val (.int r14), .val (.int r16), .val (.int r18), .val (.int r20), .val (.int r22), .val (.int r24), .val (.int r26), .val (.int r28), .val (.int r30), .val (.int r32), .val (.ref b33), .val (.ref b47), .val (.int (0 : Int32)), .val (.int (1 : Int32)), .unset] [(.int (0 : Int32))])
      have hc84 : (0 : Int32) = 0 := by decide
      refine own_go (fun _ k => XS.ifYes X68.here hx rfl (pc0 := 228) (pc' := 240) rfl (hb hby at_228) rfl (Jvm.Free.XT.i0_eq_t hc84) (by decide) (by decide) k) ?_
      show own_Go _ _ _ _ T68 (mkF m 240 #[.val (.long q_1), .second, .val (.long q_2), .second, .val (.long q_3), .second, .val (.long q_4), .second, .val (.int r2), .val (.int r4), .val (.int r6), .val (.int r8), .val (.int r10), .val (.int r12), .val (.int r14), .val (.int r16), .val (.int r18), .val (.int r20), .val (.int r22), .val (.int r24), .val (.int r26), .val (.int r28), .val (.int r30), .val (.int r32), .val (.ref b33), .val (.ref b47), .val (.int (0 : Int32)), .val (.int (1 : Int32)), .unset] [])
      refine own_go (fun _ k => XS.iconst X68.here hx rfl (hb hby at_240) k) ?_
      show own_Go _ _ _ _ T68 (mkF m 241 #[.val (.long q_1), .second, .val (.long q_2), .second, .val (.long q_3), .second, .val (.long q_4), .second, .val (.int r2), .val (.int r4), .val (.int r6), .val (.int r8), .val (.int r10), .val (.int r12), .val (.int r14), .val (.int r16), .val (.int r18), .val (.int r20), .val (.int r22), .val (.int r24), .val (.int r26), .val (.int r28), .val (.int r30), .val (.int r32), .val (.ref b33), .val (.ref b47), .val (.int (0 : Int32)), .val (.int (1 : Int32)), .unset] [(.int (0 : Int32))])
      refine own_go (fun _ k => XS.istore X68.here hx rfl (hb hby at_241) rfl (l' := #[.val (.long q_1), .second, .val (.long q_2), .second, .val (.long q_3), .second, .val (.long q_4), .second, .val (.int r2), .val (.int r4), .val (.int r6), .val (.int r8), .val (.int r10), .val (.int r12), .val (.int r14), .val (.int r16), .val (.int r18), .val (.int r20), .val (.int r22), .val (.int r24), .val (.int r26), .val (.int r28), .val (.int r30), .val (.int r32), .val (.ref b33), .val (.ref b47), .val (.int (0 : Int32)), .val (.int (1 : Int32)), .val (.int (0 : Int32))]) rfl k) ?_
      show own_Go _ _ _ _ T68 (mkF m 243 #[.val (.long q_1), .second, .val (.long q_2), .second, .val (.long q_3), .second, .val (.long q_4), .second, .val (.int r2), .val (.int r4), .val (.int r6), .val (.int r8), .val (.int r10), .val (.int r12), .val (.int r14), .val (.int r16), .val (.int r18), .val (.int r20), .val (.int r22), .val (.int r24), .val (.int r26), .val (.int r28), .val (.int r30), .val (.int r32), .val (.ref b33), .val (.ref b47), .val (.int (0 : Int32)), .val (.int (1 : Int32)), .val (.int (0 : Int32))] [])
      refine own_go (fun _ k => XS.aload X68.here hx rfl (hb hby at_243) rfl rfl k) ?_
      show own_Go _ _ _ _ T68 (mkF m 245 #[.val (.long q_1), .second, .val (.long q_2), .second, .val (.long q_3), .second, .val (.long q_4), .second, .val (.int r2), .val (.int r4), .val (.int r6), .val (.int r8), .val (.int r10), .val (.int r12), .val (.int r14), .val (.int r16), .val (.int r18), .val (.int r20), .val (.int r22), .val (.int r24), .val (.int r26), .val (.int r28), .val (.int r30), .val (.int r32), .val (.ref b33), .val (.ref b47), .val (.int (0 : Int32)), .val (.int (1 : Int32)), .val (.int (0 : Int32))] [(.ref b33)])
      refine own_go (fun _ k => XS.aload X68.here hx rfl (hb hby at_245) rfl rfl k) ?_
      show own_Go _ _ _ _ T68 (mkF m 247 #[.val (.long q_1), .second, .val (.long q_2), .second, .val (.long q_3), .second, .val (.long q_4), .second, .val (.int r2), .val (.int r4), .val (.int r6), .val (.int r8), .val (.int r10), .val (.int r12), .val (.int r14), .val (.int r16), .val (.int r18), .val (.int r20), .val (.int r22), .val (.int r24), .val (.int r26), .val (.int r28), .val (.int r30), .val (.int r32), .val (.ref b33), .val (.ref b47), .val (.int (0 : Int32)), .val (.int (1 : Int32)), .val (.int (0 : Int32))] [(.ref b47), (.ref b33)])
      have f85 : Fld Z T49.heap b33 "com/example/ratebook/ratebook/CellRange" "firstRow" "I" (.int r18) := ((f37.ext E47).keep K49q (ninS (own_ne (by omega)) nin0))
      have f86 : Fld Z T49.heap b33 "com/example/ratebook/ratebook/CellRange" "lastRow" "I" (.int r20) := ((f39.ext E47).keep K49q (ninS (own_ne (by omega)) nin0))
      have f87 : Fld Z T49.heap b33 "com/example/ratebook/ratebook/CellRange" "firstColumn" "I" (.int r22) := ((f38.ext E47).keep K49q (ninS (own_ne (by omega)) nin0))
      have f88 : Fld Z T49.heap b33 "com/example/ratebook/ratebook/CellRange" "lastColumn" "I" (.int r24) := ((f40.ext E47).keep K49q (ninS (own_ne (by omega)) nin0))
      have f90 : Exa Z T49.heap b33 "com/example/ratebook/ratebook/CellRange" := ((f36.ext E47).keep K49q)
      obtain ⟨cq89, kq89, q89a, q89b, q89c⟩ := isOf hZ e68 f90
      obtain ⟨_, _, ⟨T89, L89, k89, n89⟩, -, X89, ⟨Lc89, hQ89, l89, y89, z89⟩, st89⟩ := X68.virtualBack hx (y := (⟨"com/example/ratebook/ratebook/CellRange", "overlaps", "(Lcom/example/ratebook/ratebook/CellRange;)Z"⟩ : MethodName)) (z := (⟨"com/example/ratebook/ratebook/CellRange", "overlaps", "(Lcom/example/ratebook/ratebook/CellRange;)Z"⟩ : MethodName)) hown (mvT hZ (hw _ (List.mem_of_getElem? (i := 38) rfl))) (mvT hZ (hw _ (List.mem_of_getElem? (i := 39) rfl))) (notFace_of_selects (args := #[]) (mvT hZ (hw _ (List.mem_of_getElem? (i := 41) rfl)))) (mvT hZ (hw _ (List.mem_of_getElem? (i := 41) rfl))) (mvT hZ (hw _ (List.mem_of_getElem? (i := 40) rfl))) (by decide) (backOf (W := 0) (own_rm8 l Z a0 hw [] b33 b47 r18 r28 r26 r20 r22 r32 r30 r24 T49.heap n0 (by omega) f85 f53 f51 f86 f87 f54 f52 f88) hZ (hw _ (List.mem_of_getElem? (i := 42) rfl)) (hw _ (List.mem_of_getElem? (i := 18) rfl)) (by decide) (by decide)) q89a q89c (g := (mkF m 247 #[.val (.long q_1), .second, .val (.long q_2), .second, .val (.long q_3), .second, .val (.long q_4), .second, .val (.int r2), .val (.int r4), .val (.int r6), .val (.int r8), .val (.int r10), .val (.int r12), .val (.int r14), .val (.int r16), .val (.int r18), .val (.int r20), .val (.int r22), .val (.int r24), .val (.int r26), .val (.int r28), .val (.int r30), .val (.int r32), .val (.ref b33), .val (.ref b47), .val (.int (0 : Int32)), .val (.int (1 : Int32)), .val (.int (0 : Int32))] [(.ref b47), (.ref b33)])) rfl (by rw [hml]; rfl) (Steps.refl _) (argsL := [(.ref b47)]) (rest := []) (lenOf own_pd4 rfl) rfl (by show 2 * 0 + _ ≤ _; exact Nat.le_of_eq rfl) (hb hby at_247) (fun _ _ => ⟨rfl, e68, (by show k68 + _ ≤ _; rw [y68]; decide), (by show n68 + _ ≤ _; rw [z68]; decide)⟩)
      dsimp only [Pt.U, Pt.locs, Pt.cells, Pt.slots] at X89 l89 y89 z89 st89 hQ89
      have y89 : k89 = 2 := own_addeq y89 (congrArg (fun q => q) y68) rfl
      have z89 : n89 = 8 := own_addeq z89 (congrArg (fun q => q) z68) rfl
      obtain ⟨r91, rfl, N89q, hr_r91, e89⟩ := hQ89
      have N89 : Fr n0 L89 := by rw [l89]; exact Fr.app N68 N89q
      refine own_go (fun _ k => st89.trans k) ?_
      show own_Go _ _ _ _ T89 (mkF m 250 #[.val (.long q_1), .second, .val (.long q_2), .second, .val (.long q_3), .second, .val (.long q_4), .second, .val (.int r2), .val (.int r4), .val (.int r6), .val (.int r8), .val (.int r10), .val (.int r12), .val (.int r14), .val (.int r16), .val (.int r18), .val (.int r20), .val (.int r22), .val (.int r24), .val (.int r26), .val (.int r28), .val (.int r30), .val (.int r32), .val (.ref b33), .val (.ref b47), .val (.int (0 : Int32)), .val (.int (1 : Int32)), .val (.int (0 : Int32))] [(.int r91)])
      refine own_go (fun _ k => XS.iload X89.here hx rfl (hb hby at_250) rfl k) ?_
      show own_Go _ _ _ _ T89 (mkF m 252 #[.val (.long q_1), .second, .val (.long q_2), .second, .val (.long q_3), .second, .val (.long q_4), .second, .val (.int r2), .val (.int r4), .val (.int r6), .val (.int r8), .val (.int r10), .val (.int r12), .val (.int r14), .val (.int r16), .val (.int r18), .val (.int r20), .val (.int r22), .val (.int r24), .val (.int r26), .val (.int r28), .val (.int r30), .val (.int r32), .val (.ref b33), .val (.ref b47), .val (.int (0 : Int32)), .val (.int (1 : Int32)), .val (.int (0 : Int32))] [(.int (0 : Int32)), (.int r91)])
      have hc92 : r91 = (0 : Int32) := own_t0_2 q_1 q_2 q_3 q_4 r2 r4 r6 r8 r10 r12 r14 r16 r18 r20 r22 r24 r26 r28 r30 r32 r62 r64 r67 r69 r91 hr_r2 hr_r4 hr_r6 hr_r8 hr_r10 hr_r12 hr_r14 hr_r16 hr_r18 hr_r20 hr_r22 hr_r24 hr_r26 hr_r28 hr_r30 hr_r32 hr_r62 hr_r64 hc65 hr_r67 hr_r69 hc70 hr_r91
      refine own_go (fun _ k => XS.icmpNo X89.here hx rfl (hb hby at_252) rfl (Jvm.Free.XT.ii_ne_f hc92) k) ?_
      show own_Go _ _ _ _ T89 (mkF m 255 #[.val (.long q_1), .second, .val (.long q_2), .second, .val (.long q_3), .second, .val (.long q_4), .second, .val (.int r2), .val (.int r4), .val (.int r6), .val (.int r8), .val (.int r10), .val (.int r12), .val (.int r14), .val (.int r16), .val (.int r18), .val (.int r20), .val (.int r22), .val (.int r24), .val (.int r26), .val (.int r28), .val (.int r30), .val (.int r32), .val (.ref b33), .val (.ref b47), .val (.int (0 : Int32)), .val (.int (1 : Int32)), .val (.int (0 : Int32))] [])
      refine own_go (fun _ k => XS.aload X89.here hx rfl (hb hby at_255) rfl rfl k) ?_
      show own_Go _ _ _ _ T89 (mkF m 257 #[.val (.long q_1), .second, .val (.long q_2), .second, .val (.long q_3), .second, .val (.long q_4), .second, .val (.int r2), .val (.int r4), .val (.int r6), .val (.int r8), .val (.int r10), .val (.int r12), .val (.int r14), .val (.int r16), .val (.int r18), .val (.int r20), .val (.int r22), .val (.int r24), .val (.int r26), .val (.int r28), .val (.int r30), .val (.int r32), .val (.ref b33), .val (.ref b47), .val (.int (0 : Int32)), .val (.int (1 : Int32)), .val (.int (0 : Int32))] [(.ref b47)])
      refine own_go (fun _ k => XS.aload X89.here hx rfl (hb hby at_257) rfl rfl k) ?_
      show own_Go _ _ _ _ T89 (mkF m 259 #[.val (.long q_1), .second, .val (.long q_2), .second, .val (.long q_3), .second, .val (.long q_4), .second, .val (.int r2), .val (.int r4), .val (.int r6), .val (.int r8), .val (.int r10), .val (.int r12), .val (.int r14), .val (.int r16), .val (.int r18), .val (.int r20), .val (.int r22), .val (.int r24), .val (.int r26), .val (.int r28), .val (.int r30), .val (.int r32), .val (.ref b33), .val (.ref b47), .val (.int (0 : Int32)), .val (.int (1 : Int32)), .val (.int (0 : Int32))] [(.ref b33), (.ref b47)])
      obtain ⟨cq93, kq93, q93a, q93b, q93c⟩ := isOf hZ e89 f50
      obtain ⟨_, _, ⟨T93, L93, k93, n93⟩, -, X93, ⟨Lc93, hQ93, l93, y93, z93⟩, st93⟩ := X89.virtualBack hx (y := (⟨"com/example/ratebook/ratebook/CellRange", "overlaps", "(Lcom/example/ratebook/ratebook/CellRange;)Z"⟩ : MethodName)) (z := (⟨"com/example/ratebook/ratebook/CellRange", "overlaps", "(Lcom/example/ratebook/ratebook/CellRange;)Z"⟩ : MethodName)) hown (mvT hZ (hw _ (List.mem_of_getElem? (i := 38) rfl))) (mvT hZ (hw _ (List.mem_of_getElem? (i := 39) rfl))) (notFace_of_selects (args := #[]) (mvT hZ (hw _ (List.mem_of_getElem? (i := 41) rfl)))) (mvT hZ (hw _ (List.mem_of_getElem? (i := 41) rfl))) (mvT hZ (hw _ (List.mem_of_getElem? (i := 40) rfl))) (by decide) (backOf (W := 0) (own_rm8 l Z a0 hw [] b47 b33 r26 r20 r18 r28 r30 r24 r22 r32 T49.heap n0 (by omega) f51 f86 f85 f53 f52 f88 f87 f54) hZ (hw _ (List.mem_of_getElem? (i := 42) rfl)) (hw _ (List.mem_of_getElem? (i := 18) rfl)) (by decide) (by decide)) q93a q93c (g := (mkF m 259 #[.val (.long q_1), .second, .val (.long q_2), .second, .val (.long q_3), .second, .val (.long q_4), .second, .val (.int r2), .val (.int r4), .val (.int r6), .val (.int r8), .val (.int r10), .val (.int r12), .val (.int r14), .val (.int r16), .val (.int r18), .val (.int r20), .val (.int r22), .val (.int r24), .val (.int r26), .val (.int r28), .val (.int r30), .val (.int r32), .val (.ref b33), .val (.ref b47), .val (.int (0 : Int32)), .val (.int (1 : Int32)), .val (.int (0 : Int32))] [(.ref b33), (.ref b47)])) rfl (by rw [hml]; rfl) (Steps.refl _) (argsL := [(.ref b33)]) (rest := []) (lenOf own_pd4 rfl) rfl (by show 2 * 0 + _ ≤ _; exact Nat.le_of_eq rfl) (hb hby at_259) (fun _ _ => ⟨rfl, e89, (by show k89 + _ ≤ _; rw [y89]; decide), (by show n89 + _ ≤ _; rw [z89]; decide)⟩)
      dsimp only [Pt.U, Pt.locs, Pt.cells, Pt.slots] at X93 l93 y93 z93 st93 hQ93
      have y93 : k93 = 2 := own_addeq y93 (congrArg (fun q => q) y89) rfl
      have z93 : n93 = 8 := own_addeq z93 (congrArg (fun q => q) z89) rfl
      obtain ⟨r94, rfl, N93q, hr_r94, e93⟩ := hQ93
      have N93 : Fr n0 L93 := by rw [l93]; exact Fr.app N89 N93q
      refine own_go (fun _ k => st93.trans k) ?_
      show own_Go _ _ _ _ T93 (mkF m 262 #[.val (.long q_1), .second, .val (.long q_2), .second, .val (.long q_3), .second, .val (.long q_4), .second, .val (.int r2), .val (.int r4), .val (.int r6), .val (.int r8), .val (.int r10), .val (.int r12), .val (.int r14), .val (.int r16), .val (.int r18), .val (.int r20), .val (.int r22), .val (.int r24), .val (.int r26), .val (.int r28), .val (.int r30), .val (.int r32), .val (.ref b33), .val (.ref b47), .val (.int (0 : Int32)), .val (.int (1 : Int32)), .val (.int (0 : Int32))] [(.int r94)])
      refine own_go (fun _ k => XS.iload X93.here hx rfl (hb hby at_262) rfl k) ?_
      show own_Go _ _ _ _ T93 (mkF m 264 #[.val (.long q_1), .second, .val (.long q_2), .second, .val (.long q_3), .second, .val (.long q_4), .second, .val (.int r2), .val (.int r4), .val (.int r6), .val (.int r8), .val (.int r10), .val (.int r12), .val (.int r14), .val (.int r16), .val (.int r18), .val (.int r20), .val (.int r22), .val (.int r24), .val (.int r26), .val (.int r28), .val (.int r30), .val (.int r32), .val (.ref b33), .val (.ref b47), .val (.int (0 : Int32)), .val (.int (1 : Int32)), .val (.int (0 : Int32))] [(.int (0 : Int32)), (.int r94)])
      have hc95 : r94 = (0 : Int32) := own_t0_3 q_1 q_2 q_3 q_4 r2 r4 r6 r8 r10 r12 r14 r16 r18 r20 r22 r24 r26 r28 r30 r32 r62 r64 r67 r69 r91 r94 hr_r2 hr_r4 hr_r6 hr_r8 hr_r10 hr_r12 hr_r14 hr_r16 hr_r18 hr_r20 hr_r22 hr_r24 hr_r26 hr_r28 hr_r30 hr_r32 hr_r62 hr_r64 hc65 hr_r67 hr_r69 hc70 hr_r91 hc92 hr_r94
      refine own_go (fun _ k => XS.icmpNo X93.here hx rfl (hb hby at_264) rfl (Jvm.Free.XT.ii_ne_f hc95) k) ?_
      show own_Go _ _ _ _ T93 (mkF m 267 #[.val (.long q_1), .second, .val (.long q_2), .second, .val (.long q_3), .second, .val (.long q_4), .second, .val (.int r2), .val (.int r4), .val (.int r6), .val (.int r8), .val (.int r10), .val (.int r12), .val (.int r14), .val (.int r16), .val (.int r18), .val (.int r20), .val (.int r22), .val (.int r24), .val (.int r26), .val (.int r28), .val (.int r30), .val (.int r32), .val (.ref b33), .val (.ref b47), .val (.int (0 : Int32)), .val (.int (1 : Int32)), .val (.int (0 : Int32))] [])
      refine own_go (fun _ k => XS.iconst X93.here hx rfl (hb hby at_267) k) ?_
      show own_Go _ _ _ _ T93 (mkF m 268 #[.val (.long q_1), .second, .val (.long q_2), .second, .val (.long q_3), .second, .val (.long q_4), .second, .val (.int r2), .val (.int r4), .val (.int r6), .val (.int r8), .val (.int r10), .val (.int r12), .val (.int r14), .val (.int r16), .val (.int r18), .val (.int r20), .val (.int r22), .val (.int r24), .val (.int r26), .val (.int r28), .val (.int r30), .val (.int r32), .val (.ref b33), .val (.ref b47), .val (.int (0 : Int32)), .val (.int (1 : Int32)), .val (.int (0 : Int32))] [(.int (1 : Int32))])
      refine own_go (fun _ k => XS.goto X93.here hx rfl (pc0 := 268) (pc' := 272) rfl (hb hby at_268) (by decide) (by decide) k) ?_
      show own_Go _ _ _ _ T93 (mkF m 272 #[.val (.long q_1), .second, .val (.long q_2), .second, .val (.long q_3), .second, .val (.long q_4), .second, .val (.int r2), .val (.int r4), .val (.int r6), .val (.int r8), .val (.int r10), .val (.int r12), .val (.int r14), .val (.int r16), .val (.int r18), .val (.int r20), .val (.int r22), .val (.int r24), .val (.int r26), .val (.int r28), .val (.int r30), .val (.int r32), .val (.ref b33), .val (.ref b47), .val (.int (0 : Int32)), .val (.int (1 : Int32)), .val (.int (0 : Int32))] [(.int (1 : Int32))])
      obtain ⟨fs, hr, hrun, hended, hW, hsame⟩ := X93.leave (v := some (.int (1 : Int32))) (fun h => by rw [Bd.returns] at h; cases h)
      refine ⟨_, _, retOut X93 hx Bd.returns rfl (Or.inl ⟨rfl, Or.inr (Or.inl rfl), _, rfl⟩) (hb hby at_272) hr, hrun, hended, _, _, rfl, ?_, ⟨_, rfl⟩, hW, hsame.mono (by rw [y93]; decide) (by rw [z93]; decide)⟩
      show own_Q0 Z q_1 q_2 q_3 q_4 h0 n0 _ T93.heap _
      rw [e93]
      exact ⟨rfl, N93⟩
  · refine own_go (fun _ k => XS.icmpNo X63.here hx rfl (hb hby at_192) rfl (Jvm.Free.XT.ii_gt_f hc65) k) ?_
    show own_Go _ _ _ _ T63 (mkF m 195 #[.val (.long q_1), .second, .val (.long q_2), .second, .val (.long q_3), .second, .val (.long q_4), .second, .val (.int r2), .val (.int r4), .val (.int r6), .val (.int r8), .val (.int r10), .val (.int r12), .val (.int r14), .val (.int r16), .val (.int r18), .val (.int r20), .val (.int r22), .val (.int r24), .val (.int r26), .val (.int r28), .val (.int r30), .val (.int r32), .val (.ref b33), .val (.ref b47), .unset, .unset, .unset] [])
    refine own_go (fun _ k => XS.iconst X63.here hx rfl (hb hby at_195) k) ?_
    show own_Go _ _ _ _ T63 (mkF m 196 #[.val (.long q_1), .second, .val (.long q_2), .second, .val (.long q_3), .second, .val (.long q_4), .second, .val (.int r2), .val (.int r4), .val (.int r6), .val (.int r8), .val (.int r10), .val (.int r12), .val (.int r14), .val (.int r16), .val (.int r18), .val (.int r20), .val (.int r22), .val (.int r24), .val (.int r26), .val (.int r28), .val (.int r30), .val (.int r32), .val (.ref b33), .val (.ref b47), .unset, .unset, .unset] [(.int (1 : Int32))])
    refine own_go (fun _ k => XS.goto X63.here hx rfl (pc0 := 196) (pc' := 200) rfl (hb hby at_196) (by decide) (by decide) k) ?_
    show own_Go _ _ _ _ T63 (mkF m 200 #[.val (.long q_1), .second, .val (.long q_2), .second, .val (.long q_3), .second, .val (.long q_4), .second, .val (.int r2), .val (.int r4), .val (.int r6), .val (.int r8), .val (.int r10), .val (.int r12), .val (.int r14), .val (.int r16), .val (.int r18), .val (.int r20), .val (.int r22), .val (.int r24), .val (.int r26), .val (.int r28), .val (.int r30), .val (.int r32), .val (.ref b33), .val (.ref b47), .unset, .unset, .unset] [(.int (1 : Int32))])
    refine own_go (fun _ k => XS.istore X63.here hx rfl (hb hby at_200) rfl (l' := #[.val (.long q_1), .second, .val (.long q_2), .second, .val (.long q_3), .second, .val (.long q_4), .second, .val (.int r2), .val (.int r4), .val (.int r6), .val (.int r8), .val (.int r10), .val (.int r12), .val (.int r14), .val (.int r16), .val (.int r18), .val (.int r20), .val (.int r22), .val (.int r24), .val (.int r26), .val (.int r28), .val (.int r30), .val (.int r32), .val (.ref b33), .val (.ref b47), .val (.int (1 : Int32)), .unset, .unset]) rfl k) ?_
    show own_Go _ _ _ _ T63 (mkF m 202 #[.val (.long q_1), .second, .val (.long q_2), .second, .val (.long q_3), .second, .val (.long q_4), .second, .val (.int r2), .val (.int r4), .val (.int r6), .val (.int r8), .val (.int r10), .val (.int r12), .val (.int r14), .val (.int r16), .val (.int r18), .val (.int r20), .val (.int r22), .val (.int r24), .val (.int r26), .val (.int r28), .val (.int r30), .val (.int r32), .val (.ref b33), .val (.ref b47), .val (.int (1 : Int32)), .unset, .unset] [])
    refine own_go (fun _ k => XS.iload X63.here hx rfl (hb hby at_202) rfl k) ?_
    show own_Go _ _ _ _ T63 (mkF m 204 #[.val (.long q_1), .second, .val (.long q_2), .second, .val (.long q_3), .second, .val (.long q_4), .second, .val (.int r2), .val (.int r4), .val (.int r6), .val (.int r8), .val (.int r10), .val (.int r12), .val (.int r14), .val (.int r16), .val (.int r18), .val (.int r20), .val (.int r22), .val (.int r24), .val (.int r26), .val (.int r28), .val (.int r30), .val (.int r32), .val (.ref b33), .val (.ref b47), .val (.int (1 : Int32)), .unset, .unset] [(.int r22)])
    refine own_go (fun _ k => XS.iload X63.here hx rfl (hb hby at_204) rfl k) ?_
    show own_Go _ _ _ _ T63 (mkF m 206 #[.val (.long q_1), .second, .val (.long q_2), .second, .val (.long q_3), .second, .val (.long q_4), .second, .val (.int r2), .val (.int r4), .val (.int r6), .val (.int r8), .val (.int r10), .val (.int r12), .val (.int r14), .val (.int r16), .val (.int r18), .val (.int r20), .val (.int r22), .val (.int r24), .val (.int r26), .val (.int r28), .val (.int r30), .val (.int r32), .val (.ref b33), .val (.ref b47), .val (.int (1 : Int32)), .unset, .unset] [(.int r30), (.int r22)])
    obtain ⟨_, _, ⟨T97, L97, k97, n97⟩, -, X97, ⟨Lc97, hQ97, l97, y97, z97⟩, st97⟩ := Jvm.LawKit.callS X63 hx (y := (⟨"java/lang/Math", "max", "(II)I"⟩ : MethodName)) hown (mvT hZ (hw _ (List.mem_of_getElem? (i := 13) rfl))) (mvT hZ (hw _ (List.mem_of_getElem? (i := 14) rfl))) (mvT hZ (hw _ (List.mem_of_getElem? (i := 11) rfl))) (mvT hZ (hw _ (List.mem_of_getElem? (i := 15) rfl))) (by decide) (backOf (W := 0) (own_rm4 l Z a0 hw [] r22 r30  T49.heap n0 (by omega) ) hZ (hw _ (List.mem_of_getElem? (i := 15) rfl)) (hw _ (List.mem_of_getElem? (i := 11) rfl)) (by decide) (by decide)) (g := (mkF m 206 #[.val (.long q_1), .second, .val (.long q_2), .second, .val (.long q_3), .second, .val (.long q_4), .second, .val (.int r2), .val (.int r4), .val (.int r6), .val (.int r8), .val (.int r10), .val (.int r12), .val (.int r14), .val (.int r16), .val (.int r18), .val (.int r20), .val (.int r22), .val (.int r24), .val (.int r26), .val (.int r28), .val (.int r30), .val (.int r32), .val (.ref b33), .val (.ref b47), .val (.int (1 : Int32)), .unset, .unset] [(.int r30), (.int r22)])) rfl (by rw [hml]; rfl) (argsL := [(.int r22), (.int r30)]) (rest := []) (lenOf own_pd2 rfl) rfl (by show 2 * 0 + _ ≤ _; exact Nat.le_of_eq rfl) (hb hby at_206) (fun _ _ => ⟨rfl, e63, (by show k63 + _ ≤ _; rw [y63]; decide), (by show n63 + _ ≤ _; rw [z63]; decide)⟩)
    dsimp only [Pt.U, Pt.locs, Pt.cells, Pt.slots] at X97 l97 y97 z97 st97 hQ97
    have y97 : k97 = 2 := own_addeq y97 (congrArg (fun q => q) y63) rfl
    have z97 : n97 = 8 := own_addeq z97 (congrArg (fun q => q) z63) rfl
    obtain ⟨r98, rfl, N97q, hr_r98, e97⟩ := hQ97
    have N97 : Fr n0 L97 := by rw [l97]; exact Fr.app N63 N97q
    refine own_go (fun _ k => st97 _ k) ?_
    show own_Go _ _ _ _ T97 (mkF m 209 #[.val (.long q_1), .second, .val (.long q_2), .second, .val (.long q_3), .second, .val (.long q_4), .second, .val (.int r2), .val (.int r4), .val (.int r6), .val (.int r8), .val (.int r10), .val (.int r12), .val (.int r14), .val (.int r16), .val (.int r18), .val (.int r20), .val (.int r22), .val (.int r24), .val (.int r26), .val (.int r28), .val (.int r30), .val (.int r32), .val (.ref b33), .val (.ref b47), .val (.int (1 : Int32)), .unset, .unset] [(.int r98)])
    refine own_go (fun _ k => XS.iload X97.here hx rfl (hb hby at_209) rfl k) ?_
    show own_Go _ _ _ _ T97 (mkF m 211 #[.val (.long q_1), .second, .val (.long q_2), .second, .val (.long q_3), .second, .val (.long q_4), .second, .val (.int r2), .val (.int r4), .val (.int r6), .val (.int r8), .val (.int r10), .val (.int r12), .val (.int r14), .val (.int r16), .val (.int r18), .val (.int r20), .val (.int r22), .val (.int r24), .val (.int r26), .val (.int r28), .val (.int r30), .val (.int r32), .val (.ref b33), .val (.ref b47), .val (.int (1 : Int32)), .unset, .unset] [(.int r24), (.int r98)])
    refine own_go (fun _ k => XS.iload X97.here hx rfl (hb hby at_211) rfl k) ?_
    show own_Go _ _ _ _ T97 (mkF m 213 #[.val (.long q_1), .second, .val (.long q_2), .second, .val (.long q_3), .second, .val (.long q_4), .second, .val (.int r2), .val (.int r4), .val (.int r6), .val (.int r8), .val (.int r10), .val (.int r12), .val (.int r14), .val (.int r16), .val (.int r18), .val (.int r20), .val (.int r22), .val (.int r24), .val (.int r26), .val (.int r28), .val (.int r30), .val (.int r32), .val (.ref b33), .val (.ref b47), .val (.int (1 : Int32)), .unset, .unset] [(.int r32), (.int r24), (.int r98)])
    obtain ⟨_, _, ⟨T99, L99, k99, n99⟩, -, X99, ⟨Lc99, hQ99, l99, y99, z99⟩, st99⟩ := Jvm.LawKit.callS X97 hx (y := (⟨"java/lang/Math", "min", "(II)I"⟩ : MethodName)) hown (mvT hZ (hw _ (List.mem_of_getElem? (i := 9) rfl))) (mvT hZ (hw _ (List.mem_of_getElem? (i := 10) rfl))) (mvT hZ (hw _ (List.mem_of_getElem? (i := 11) rfl))) (mvT hZ (hw _ (List.mem_of_getElem? (i := 12) rfl))) (by decide) (backOf (W := 1) (own_rm3 l Z a0 hw [] r24 r32  T49.heap n0 (by omega) ) hZ (hw _ (List.mem_of_getElem? (i := 12) rfl)) (hw _ (List.mem_of_getElem? (i := 11) rfl)) (by decide) (by decide)) (g := (mkF m 213 #[.val (.long q_1), .second, .val (.long q_2), .second, .val (.long q_3), .second, .val (.long q_4), .second, .val (.int r2), .val (.int r4), .val (.int r6), .val (.int r8), .val (.int r10), .val (.int r12), .val (.int r14), .val (.int r16), .val (.int r18), .val (.int r20), .val (.int r22), .val (.int r24), .val (.int r26), .val (.int r28), .val (.int r30), .val (.int r32), .val (.ref b33), .val (.ref b47), .val (.int (1 : Int32)), .unset, .unset] [(.int r32), (.int r24), (.int r98)])) rfl (by rw [hml]; rfl) (argsL := [(.int r24), (.int r32)]) (rest := [(.int r98)]) (lenOf own_pd2 rfl) rfl (by show 2 * 0 + _ ≤ _; exact Nat.le_of_eq rfl) (hb hby at_213) (fun _ _ => ⟨rfl, e97, (by show k97 + _ ≤ _; rw [y97]; decide), (by show n97 + _ ≤ _; rw [z97]; decide)⟩)
    dsimp only [Pt.U, Pt.locs, Pt.cells, Pt.slots] at X99 l99 y99 z99 st99 hQ99
    have y99 : k99 = 2 := own_addeq y99 (congrArg (fun q => q) y97) rfl
    have z99 : n99 = 8 := own_addeq z99 (congrArg (fun q => q) z97) rfl
    obtain ⟨r100, rfl, N99q, hr_r100, e99⟩ := hQ99
    have N99 : Fr n0 L99 := by rw [l99]; exact Fr.app N97 N99q
    refine own_go (fun _ k => st99 _ k) ?_
    show own_Go _ _ _ _ T99 (mkF m 216 #[.val (.long q_1), .second, .val (.long q_2), .second, .val (.long q_3), .second, .val (.long q_4), .second, .val (.int r2), .val (.int r4), .val (.int r6), .val (.int r8), .val (.int r10), .val (.int r12), .val (.int r14), .val (.int r16), .val (.int r18), .val (.int r20), .val (.int r22), .val (.int r24), .val (.int r26), .val (.int r28), .val (.int r30), .val (.int r32), .val (.ref b33), .val (.ref b47), .val (.int (1 : Int32)), .unset, .unset] [(.int r100), (.int r98)])
    by_cases hc101 : r100 < r98
    · refine own_go (fun _ k => XS.icmpYes X99.here hx rfl (pc0 := 216) (pc' := 223) rfl (hb hby at_216) rfl (Jvm.Free.XT.ii_gt_t hc101) (by decide) (by decide) k) ?_
      show own_Go _ _ _ _ T99 (mkF m 223 #[.val (.long q_1), .second, .val (.long q_2), .second, .val (.long q_3), .second, .val (.long q_4), .second, .val (.int r2), .val (.int r4), .val (.int r6), .val (.int r8), .val (.int r10), .val (.int r12), .val (.int r14), .val (.int r16), .val (.int r18), .val (.int r20), .val (.int r22), .val (.int r24), .val (.int r26), .val (.int r28), .val (.int r30), .val (.int r32), .val (.ref b33), .val (.ref b47), .val (.int (1 : Int32)), .unset, .unset] [])
      refine own_go (fun _ k => XS.iconst X99.here hx rfl (hb hby at_223) k) ?_
      show own_Go _ _ _ _ T99 (mkF m 224 #[.val (.long q_1), .second, .val (.long q_2), .second, .val (.long q_3), .second, .val (.long q_4), .second, .val (.int r2), .val (.int r4), .val (.int r6), .val (.int r8), .val (.int r10), .val (.int r12), .val (.int r14), .val (.int r16), .val (.int r18), .val (.int r20), .val (.int r22), .val (.int r24), .val (.int r26), .val (.int r28), .val (.int r30), .val (.int r32), .val (.ref b33), .val (.ref b47), .val (.int (1 : Int32)), .unset, .unset] [(.int (0 : Int32))])
      refine own_go (fun _ k => XS.istore X99.here hx rfl (hb hby at_224) rfl (l' := #[.val (.long q_1), .second, .val (.long q_2), .second, .val (.long q_3), .second, .val (.long q_4), .second, .val (.int r2), .val (.int r4), .val (.int r6), .val (.int r8), .val (.int r10), .val (.int r12), .val (.int r14), .val (.int r16), .val (.int r18), .val (.int r20), .val (.int r22), .val (.int r24), .val (.int r26), .val (.int r28), .val (.int r30), .val (.int r32), .val (.ref b33), .val (.ref b47), .val (.int (1 : Int32)), .val (.int (0 : Int32)), .unset]) rfl k) ?_
      show own_Go _ _ _ _ T99 (mkF m 226 #[.val (.long q_1), .second, .val (.long q_2), .second, .val (.long q_3), .second, .val (.long q_4), .second, .val (.int r2), .val (.int r4), .val (.int r6), .val (.int r8), .val (.int r10), .val (.int r12), .val (.int r14), .val (.int r16), .val (.int r18), .val (.int r20), .val (.int r22), .val (.int r24), .val (.int r26), .val (.int r28), .val (.int r30), .val (.int r32), .val (.ref b33), .val (.ref b47), .val (.int (1 : Int32)), .val (.int (0 : Int32)), .unset] [])
      refine own_go (fun _ k => XS.iload X99.here hx rfl (hb hby at_226) rfl k) ?_
      show own_Go _ _ _ _ T99 (mkF m 228 #[.val (.long q_1), .second, .val (.long q_2), .second, .val (.long q_3), .second, .val (.long q_4), .second, .val (.int r2), .val (.int r4), .val (.int r6), .val (.int r8), .val (.int r10), .val (.int r12), .val (.int r14), .val (.int r16), .val (.int r18), .val (.int r20), .val (.int r22), .val (.int r24), .val (.int r26), .val (.int r28), .val (.int r30), .val (.int r32), .val (.ref b33), .val (.ref b47), .val (.int (1 : Int32)), .val (.int (0 : Int32)), .unset] [(.int (1 : Int32))])
      have hc102 : ¬ ((1 : Int32) = 0) := by decide
      refine own_go (fun _ k => XS.ifNo X99.here hx rfl (hb hby at_228) rfl (Jvm.Free.XT.i0_eq_f hc102) k) ?_
      show own_Go _ _ _ _ T99 (mkF m 231 #[.val (.long q_1), .second, .val (.long q_2), .second, .val (.long q_3), .second, .val (.long q_4), .second, .val (.int r2), .val (.int r4), .val (.int r6), .val (.int r8), .val (.int r10), .val (.int r12), .val (.int r14), .val (.int r16), .val (.int r18), .val (.int r20), .val (.int r22), .val (.int r24), .val (.int r26), .val (.int r28), .val (.int r30), .val (.int r32), .val (.ref b33), .val (.ref b47), .val (.int (1 : Int32)), .val (.int (0 : Int32)), .unset] [])
      refine own_go (fun _ k => XS.iload X99.here hx rfl (hb hby at_231) rfl k) ?_
      show own_Go _ _ _ _ T99 (mkF m 233 #[.val (.long q_1), .second, .val (.long q_2), .second, .val (.long q_3), .second, .val (.long q_4), .second, .val (.int r2), .val (.int r4), .val (.int r6), .val (.int r8), .val (.int r10), .val (.int r12), .val (.int r14), .val (.int r16), .val (.int r18), .val (.int r20), .val (.int r22), .val (.int r24), .val (.int r26), .val (.int r28), .val (.int r30), .val (.int r32), .val (.ref b33), .val (.ref b47), .val (.int (1 : Int32)), .val (.int (0 : Int32)), .unset] [(.int (0 : Int32))])
      have hc103 : (0 : Int32) = 0 := by decide
      refine own_go (fun _ k => XS.ifYes X99.here hx rfl (pc0 := 233) (pc' := 240) rfl (hb hby at_233) rfl (Jvm.Free.XT.i0_eq_t hc103) (by decide) (by decide) k) ?_
      show own_Go _ _ _ _ T99 (mkF m 240 #[.val (.long q_1), .second, .val (.long q_2), .second, .val (.long q_3), .second, .val (.long q_4), .second, .val (.int r2), .val (.int r4), .val (.int r6), .val (.int r8), .val (.int r10), .val (.int r12), .val (.int r14), .val (.int r16), .val (.int r18), .val (.int r20), .val (.int r22), .val (.int r24), .val (.int r26), .val (.int r28), .val (.int r30), .val (.int r32), .val (.ref b33), .val (.ref b47), .val (.int (1 : Int32)), .val (.int (0 : Int32)), .unset] [])
      refine own_go (fun _ k => XS.iconst X99.here hx rfl (hb hby at_240) k) ?_
      show own_Go _ _ _ _ T99 (mkF m 241 #[.val (.long q_1), .second, .val (.long q_2), .second, .val (.long q_3), .second, .val (.long q_4), .second, .val (.int r2), .val (.int r4), .val (.int r6), .val (.int r8), .val (.int r10), .val (.int r12), .val (.int r14), .val (.int r16), .val (.int r18), .val (.int r20), .val (.int r22), .val (.int r24), .val (.int r26), .val (.int r28), .val (.int r30), .val (.int r32), .val (.ref b33), .val (.ref b47), .val (.int (1 : Int32)), .val (.int (0 : Int32)), .unset] [(.int (0 : Int32))])
      refine own_go (fun _ k => XS.istore X99.here hx rfl (hb hby at_241) rfl (l' := #[.val (.long q_1), .second, .val (.long q_2), .second, .val (.long q_3), .second, .val (.long q_4), .second, .val (.int r2), .val (.int r4), .val (.int r6), .val (.int r8), .val (.int r10), .val (.int r12), .val (.int r14), .val (.int r16), .val (.int r18), .val (.int r20), .val (.int r22), .val (.int r24), .val (.int r26), .val (.int r28), .val (.int r30), .val (.int r32), .val (.ref b33), .val (.ref b47), .val (.int (1 : Int32)), .val (.int (0 : Int32)), .val (.int (0 : Int32))]) rfl k) ?_
      show own_Go _ _ _ _ T99 (mkF m 243 #[.val (.long q_1), .second, .val (.long q_2), .second, .val (.long q_3), .second, .val (.long q_4), .second, .val (.int r2), .val (.int r4), .val (.int r6), .val (.int r8), .val (.int r10), .val (.int r12), .val (.int r14), .val (.int r16), .val (.int r18), .val (.int r20), .val (.int r22), .val (.int r24), .val (.int r26), .val (.int r28), .val (.int r30), .val (.int r32), .val (.ref b33), .val (.ref b47), .val (.int (1 : Int32)), .val (.int (0 : Int32)), .val (.int (0 : Int32))] [])
      refine own_go (fun _ k => XS.aload X99.here hx rfl (hb hby at_243) rfl rfl k) ?_
      show own_Go _ _ _ _ T99 (mkF m 245 #[.val (.long q_1), .second, .val (.long q_2), .second, .val (.long q_3), .second, .val (.long q_4), .second, .val (.int r2), .val (.int r4), .val (.int r6), .val (.int r8), .val (.int r10), .val (.int r12), .val (.int r14), .val (.int r16), .val (.int r18), .val (.int r20), .val (.int r22), .val (.int r24), .val (.int r26), .val (.int r28), .val (.int r30), .val (.int r32), .val (.ref b33), .val (.ref b47), .val (.int (1 : Int32)), .val (.int (0 : Int32)), .val (.int (0 : Int32))] [(.ref b33)])
      refine own_go (fun _ k => XS.aload X99.here hx rfl (hb hby at_245) rfl rfl k) ?_
      show own_Go _ _ _ _ T99 (mkF m 247 #[.val (.long q_1), .second, .val (.long q_2), .second, .val (.long q_3), .second, .val (.long q_4), .second, .val (.int r2), .val (.int r4), .val (.int r6), .val (.int r8), .val (.int r10), .val (.int r12), .val (.int r14), .val (.int r16), .val (.int r18), .val (.int r20), .val (.int r22), .val (.int r24), .val (.int r26), .val (.int r28), .val (.int r30), .val (.int r32), .val (.ref b33), .val (.ref b47), .val (.int (1 : Int32)), .val (.int (0 : Int32)), .val (.int (0 : Int32))] [(.ref b47), (.ref b33)])
      have f104 : Fld Z T49.heap b33 "com/example/ratebook/ratebook/CellRange" "firstRow" "I" (.int r18) := ((f37.ext E47).keep K49q (ninS (own_ne (by omega)) nin0))
      have f105 : Fld Z T49.heap b33 "com/example/ratebook/ratebook/CellRange" "lastRow" "I" (.int r20) := ((f39.ext E47).keep K49q (ninS (own_ne (by omega)) nin0))
      have f106 : Fld Z T49.heap b33 "com/example/ratebook/ratebook/CellRange" "firstColumn" "I" (.int r22) := ((f38.ext E47).keep K49q (ninS (own_ne (by omega)) nin0))
      have f107 : Fld Z T49.heap b33 "com/example/ratebook/ratebook/CellRange" "lastColumn" "I" (.int r24) := ((f40.ext E47).keep K49q (ninS (own_ne (by omega)) nin0))
      have f109 : Exa Z T49.heap b33 "com/example/ratebook/ratebook/CellRange" := ((f36.ext E47).keep K49q)
      obtain ⟨cq108, kq108, q108a, q108b, q108c⟩ := isOf hZ e99 f109
      obtain ⟨_, _, ⟨T108, L108, k108, n108⟩, -, X108, ⟨Lc108, hQ108, l108, y108, z108⟩, st108⟩ := X99.virtualBack hx (y := (⟨"com/example/ratebook/ratebook/CellRange", "overlaps", "(Lcom/example/ratebook/ratebook/CellRange;)Z"⟩ : MethodName)) (z := (⟨"com/example/ratebook/ratebook/CellRange", "overlaps", "(Lcom/example/ratebook/ratebook/CellRange;)Z"⟩ : MethodName)) hown (mvT hZ (hw _ (List.mem_of_getElem? (i := 38) rfl))) (mvT hZ (hw _ (List.mem_of_getElem? (i := 39) rfl))) (notFace_of_selects (args := #[]) (mvT hZ (hw _ (List.mem_of_getElem? (i := 41) rfl)))) (mvT hZ (hw _ (List.mem_of_getElem? (i := 41) rfl))) (mvT hZ (hw _ (List.mem_of_getElem? (i := 40) rfl))) (by decide) (backOf (W := 0) (own_rm8 l Z a0 hw [] b33 b47 r18 r28 r26 r20 r22 r32 r30 r24 T49.heap n0 (by omega) f104 f53 f51 f105 f106 f54 f52 f107) hZ (hw _ (List.mem_of_getElem? (i := 42) rfl)) (hw _ (List.mem_of_getElem? (i := 18) rfl)) (by decide) (by decide)) q108a q108c (g := (mkF m 247 #[.val (.long q_1), .second, .val (.long q_2), .second, .val (.long q_3), .second, .val (.long q_4), .second, .val (.int r2), .val (.int r4), .val (.int r6), .val (.int r8), .val (.int r10), .val (.int r12), .val (.int r14), .val (.int r16), .val (.int r18), .val (.int r20), .val (.int r22), .val (.int r24), .val (.int r26), .val (.int r28), .val (.int r30), .val (.int r32), .val (.ref b33), .val (.ref b47), .val (.int (1 : Int32)), .val (.int (0 : Int32)), .val (.int (0 : Int32))] [(.ref b47), (.ref b33)])) rfl (by rw [hml]; rfl) (Steps.refl _) (argsL := [(.ref b47)]) (rest := []) (lenOf own_pd4 rfl) rfl (by show 2 * 0 + _ ≤ _; exact Nat.le_of_eq rfl) (hb hby at_247) (fun _ _ => ⟨rfl, e99, (by show k99 + _ ≤ _; rw [y99]; decide), (by show n99 + _ ≤ _; rw [z99]; decide)⟩)
      dsimp only [Pt.U, Pt.locs, Pt.cells, Pt.slots] at X108 l108 y108 z108 st108 hQ108
      have y108 : k108 = 2 := own_addeq y108 (congrArg (fun q => q) y99) rfl
      have z108 : n108 = 8 := own_addeq z108 (congrArg (fun q => q) z99) rfl
      obtain ⟨r110, rfl, N108q, hr_r110, e108⟩ := hQ108
      have N108 : Fr n0 L108 := by rw [l108]; exact Fr.app N99 N108q
      refine own_go (fun _ k => st108.trans k) ?_
      show own_Go _ _ _ _ T108 (mkF m 250 #[.val (.long q_1), .second, .val (.long q_2), .second, .val (.long q_3), .second, .val (.long q_4), .second, .val (.int r2), .val (.int r4), .val (.int r6), .val (.int r8), .val (.int r10), .val (.int r12), .val (.int r14), .val (.int r16), .val (.int r18), .val (.int r20), .val (.int r22), .val (.int r24), .val (.int r26), .val (.int r28), .val (.int r30), .val (.int r32), .val (.ref b33), .val (.ref b47), .val (.int (1 : Int32)), .val (.int (0 : Int32)), .val (.int (0 : Int32))] [(.int r110)])
      refine own_go (fun _ k => XS.iload X108.here hx rfl (hb hby at_250) rfl k) ?_
      show own_Go _ _ _ _ T108 (mkF m 252 #[.val (.long q_1), .second, .val (.long q_2), .second, .val (.long q_3), .second, .val (.long q_4), .second, .val (.int r2), .val (.int r4), .val (.int r6), .val (.int r8), .val (.int r10), .val (.int r12), .val (.int r14), .val (.int r16), .val (.int r18), .val (.int r20), .val (.int r22), .val (.int r24), .val (.int r26), .val (.int r28), .val (.int r30), .val (.int r32), .val (.ref b33), .val (.ref b47), .val (.int (1 : Int32)), .val (.int (0 : Int32)), .val (.int (0 : Int32))] [(.int (0 : Int32)), (.int r110)])
      have hc111 : r110 = (0 : Int32) := own_t0_4 q_1 q_2 q_3 q_4 r2 r4 r6 r8 r10 r12 r14 r16 r18 r20 r22 r24 r26 r28 r30 r32 r62 r64 r98 r100 r110 hr_r2 hr_r4 hr_r6 hr_r8 hr_r10 hr_r12 hr_r14 hr_r16 hr_r18 hr_r20 hr_r22 hr_r24 hr_r26 hr_r28 hr_r30 hr_r32 hr_r62 hr_r64 hc65 hr_r98 hr_r100 hc101 hr_r110
      refine own_go (fun _ k => XS.icmpNo X108.here hx rfl (hb hby at_252) rfl (Jvm.Free.XT.ii_ne_f hc111) k) ?_
      show own_Go _ _ _ _ T108 (mkF m 255 #[.val (.long q_1), .second, .val (.long q_2), .second, .val (.long q_3), .second, .val (.long q_4), .second, .val (.int r2), .val (.int r4), .val (.int r6), .val (.int r8), .val (.int r10), .val (.int r12), .val (.int r14), .val (.int r16), .val (.int r18), .val (.int r20), .val (.int r22), .val (.int r24), .val (.int r26), .val (.int r28), .val (.int r30), .val (.int r32), .val (.ref b33), .val (.ref b47), .val (.int (1 : Int32)), .val (.int (0 : Int32)), .val (.int (0 : Int32))] [])
      refine own_go (fun _ k => XS.aload X108.here hx rfl (hb hby at_255) rfl rfl k) ?_
      show own_Go _ _ _ _ T108 (mkF m 257 #[.val (.long q_1), .second, .val (.long q_2), .second, .val (.long q_3), .second, .val (.long q_4), .second, .val (.int r2), .val (.int r4), .val (.int r6), .val (.int r8), .val (.int r10), .val (.int r12), .val (.int r14), .val (.int r16), .val (.int r18), .val (.int r20), .val (.int r22), .val (.int r24), .val (.int r26), .val (.int r28), .val (.int r30), .val (.int r32), .val (.ref b33), .val (.ref b47), .val (.int (1 : Int32)), .val (.int (0 : Int32)), .val (.int (0 : Int32))] [(.ref b47)])
      refine own_go (fun _ k => XS.aload X108.here hx rfl (hb hby at_257) rfl rfl k) ?_
      show own_Go _ _ _ _ T108 (mkF m 259 #[.val (.long q_1), .second, .val (.long q_2), .second, .val (.long q_3), .second, .val (.long q_4), .second, .val (.int r2), .val (.int r4), .val (.int r6), .val (.int r8), .val (.int r10), .val (.int r12), .val (.int r14), .val (.int r16), .val (.int r18), .val (.int r20), .val (.int r22), .val (.int r24), .val (.int r26), .val (.int r28), .val (.int r30), .val (.int r32), .val (.ref b33), .val (.ref b47), .val (.int (1 : Int32)), .val (.int (0 : Int32)), .val (.int (0 : Int32))] [(.ref b33), (.ref b47)])
      obtain ⟨cq112, kq112, q112a, q112b, q112c⟩ := isOf hZ e108 f50
      obtain ⟨_, _, ⟨T112, L112, k112, n112⟩, -, X112, ⟨Lc112, hQ112, l112, y112, z112⟩, st112⟩ := X108.virtualBack hx (y := (⟨"com/example/ratebook/ratebook/CellRange", "overlaps", "(Lcom/example/ratebook/ratebook/CellRange;)Z"⟩ : MethodName)) (z := (⟨"com/example/ratebook/ratebook/CellRange", "overlaps", "(Lcom/example/ratebook/ratebook/CellRange;)Z"⟩ : MethodName)) hown (mvT hZ (hw _ (List.mem_of_getElem? (i := 38) rfl))) (mvT hZ (hw _ (List.mem_of_getElem? (i := 39) rfl))) (notFace_of_selects (args := #[]) (mvT hZ (hw _ (List.mem_of_getElem? (i := 41) rfl)))) (mvT hZ (hw _ (List.mem_of_getElem? (i := 41) rfl))) (mvT hZ (hw _ (List.mem_of_getElem? (i := 40) rfl))) (by decide) (backOf (W := 0) (own_rm8 l Z a0 hw [] b47 b33 r26 r20 r18 r28 r30 r24 r22 r32 T49.heap n0 (by omega) f51 f105 f104 f53 f52 f107 f106 f54) hZ (hw _ (List.mem_of_getElem? (i := 42) rfl)) (hw _ (List.mem_of_getElem? (i := 18) rfl)) (by decide) (by decide)) q112a q112c (g := (mkF m 259 #[.val (.long q_1), .second, .val (.long q_2), .second, .val (.long q_3), .second, .val (.long q_4), .second, .val (.int r2), .val (.int r4), .val (.int r6), .val (.int r8), .val (.int r10), .val (.int r12), .val (.int r14), .val (.int r16), .val (.int r18), .val (.int r20), .val (.int r22), .val (.int r24), .val (.int r26), .val (.int r28), .val (.int r30), .val (.int r32), .val (.ref b33), .val (.ref b47), .val (.int (1 : Int32)), .val (.int (0 : Int32)), .val (.int (0 : Int32))] [(.ref b33), (.ref b47)])) rfl (by rw [hml]; rfl) (Steps.refl _) (argsL := [(.ref b33)]) (rest := []) (lenOf own_pd4 rfl) rfl (by show 2 * 0 + _ ≤ _; exact Nat.le_of_eq rfl) (hb hby at_259) (fun _ _ => ⟨rfl, e108, (by show k108 + _ ≤ _; rw [y108]; decide), (by show n108 + _ ≤ _; rw [z108]; decide)⟩)
      dsimp only [Pt.U, Pt.locs, Pt.cells, Pt.slots] at X112 l112 y112 z112 st112 hQ112
      have y112 : k112 = 2 := own_addeq y112 (congrArg (fun q => q) y108) rfl
      have z112 : n112 = 8 := own_addeq z112 (congrArg (fun q => q) z108) rfl
      obtain ⟨r113, rfl, N112q, hr_r113, e112⟩ := hQ112
      have N112 : Fr n0 L112 := by rw [l112]; exact Fr.app N108 N112q
      refine own_go (fun _ k => st112.trans k) ?_
      show own_Go _ _ _ _ T112 (mkF m 262 #[.val (.long q_1), .second, .val (.long q_2), .second, .val (.long q_3), .second, .val (.long q_4), .second, .val (.int r2), .val (.int r4), .val (.int r6), .val (.int r8), .val (.int r10), .val (.int r12), .val (.int r14), .val (.int r16), .val (.int r18), .val (.int r20), .val (.int r22), .val (.int r24), .val (.int r26), .val (.int r28), .val (.int r30), .val (.int r32), .val (.ref b33), .val (.ref b47), .val (.int (1 : Int32)), .val (.int (0 : Int32)), .val (.int (0 : Int32))] [(.int r113)])
      refine own_go (fun _ k => XS.iload X112.here hx rfl (hb hby at_262) rfl k) ?_
      show own_Go _ _ _ _ T112 (mkF m 264 #[.val (.long q_1), .second, .val (.long q_2), .second, .val (.long q_3), .second, .val (.long q_4), .second, .val (.int r2), .val (.int r4), .val (.int r6), .val (.int r8), .val (.int r10), .val (.int r12), .val (.int r14), .val (.int r16), .val (.int r18), .val (.int r20), .val (.int r22), .val (.int r24), .val (.int r26), .val (.int r28), .val (.int r30), .val (.int r32), .val (.ref b33), .val (.ref b47), .val (.int (1 : Int32)), .val (.int (0 : Int32)), .val (.int (0 : Int32))] [(.int (0 : Int32)), (.int r113)])
      have hc114 : r113 = (0 : Int32) := own_t0_5 q_1 q_2 q_3 q_4 r2 r4 r6 r8 r10 r12 r14 r16 r18 r20 r22 r24 r26 r28 r30 r32 r62 r64 r98 r100 r110 r113 hr_r2 hr_r4 hr_r6 hr_r8 hr_r10 hr_r12 hr_r14 hr_r16 hr_r18 hr_r20 hr_r22 hr_r24 hr_r26 hr_r28 hr_r30 hr_r32 hr_r62 hr_r64 hc65 hr_r98 hr_r100 hc101 hr_r110 hc111 hr_r113
      refine own_go (fun _ k => XS.icmpNo X112.here hx rfl (hb hby at_264) rfl (Jvm.Free.XT.ii_ne_f hc114) k) ?_
      show own_Go _ _ _ _ T112 (mkF m 267 #[.val (.long q_1), .second, .val (.long q_2), .second, .val (.long q_3), .second, .val (.long q_4), .second, .val (.int r2), .val (.int r4), .val (.int r6), .val (.int r8), .val (.int r10), .val (.int r12), .val (.int r14), .val (.int r16), .val (.int r18), .val (.int r20), .val (.int r22), .val (.int r24), .val (.int r26), .val (.int r28), .val (.int r30), .val (.int r32), .val (.ref b33), .val (.ref b47), .val (.int (1 : Int32)), .val (.int (0 : Int32)), .val (.int (0 : Int32))] [])
      refine own_go (fun _ k => XS.iconst X112.here hx rfl (hb hby at_267) k) ?_
      show own_Go _ _ _ _ T112 (mkF m 268 #[.val (.long q_1), .second, .val (.long q_2), .second, .val (.long q_3), .second, .val (.long q_4), .second, .val (.int r2), .val (.int r4), .val (.int r6), .val (.int r8), .val (.int r10), .val (.int r12), .val (.int r14), .val (.int r16), .val (.int r18), .val (.int r20), .val (.int r22), .val (.int r24), .val (.int r26), .val (.int r28), .val (.int r30), .val (.int r32), .val (.ref b33), .val (.ref b47), .val (.int (1 : Int32)), .val (.int (0 : Int32)), .val (.int (0 : Int32))] [(.int (1 : Int32))])
      refine own_go (fun _ k => XS.goto X112.here hx rfl (pc0 := 268) (pc' := 272) rfl (hb hby at_268) (by decide) (by decide) k) ?_
      show own_Go _ _ _ _ T112 (mkF m 272 #[.val (.long q_1), .second, .val (.long q_2), .second, .val (.long q_3), .second, .val (.long q_4), .second, .val (.int r2), .val (.int r4), .val (.int r6), .val (.int r8), .val (.int r10), .val (.int r12), .val (.int r14), .val (.int r16), .val (.int r18), .val (.int r20), .val (.int r22), .val (.int r24), .val (.int r26), .val (.int r28), .val (.int r30), .val (.int r32), .val (.ref b33), .val (.ref b47), .val (.int (1 : Int32)), .val (.int (0 : Int32)), .val (.int (0 : Int32))] [(.int (1 : Int32))])
      obtain ⟨fs, hr, hrun, hended, hW, hsame⟩ := X112.leave (v := some (.int (1 : Int32))) (fun h => by rw [Bd.returns] at h; cases h)
      refine ⟨_, _, retOut X112 hx Bd.returns rfl (Or.inl ⟨rfl, Or.inr (Or.inl rfl), _, rfl⟩) (hb hby at_272) hr, hrun, hended, _, _, rfl, ?_, ⟨_, rfl⟩, hW, hsame.mono (by rw [y112]; decide) (by rw [z112]; decide)⟩
      show own_Q0 Z q_1 q_2 q_3 q_4 h0 n0 _ T112.heap _
      rw [e112]
      exact ⟨rfl, N112⟩
    · refine own_go (fun _ k => XS.icmpNo X99.here hx rfl (hb hby at_216) rfl (Jvm.Free.XT.ii_gt_f hc101) k) ?_
      show own_Go _ _ _ _ T99 (mkF m 219 #[.val (.long q_1), .second, .val (.long q_2), .second, .val (.long q_3), .second, .val (.long q_4), .second, .val (.int r2), .val (.int r4), .val (.int r6), .val (.int r8), .val (.int r10), .val (.int r12), .val (.int r14), .val (.int r16), .val (.int r18), .val (.int r20), .val (.int r22), .val (.int r24), .val (.int r26), .val (.int r28), .val (.int r30), .val (.int r32), .val (.ref b33), .val (.ref b47), .val (.int (1 : Int32)), .unset, .unset] [])
      refine own_go (fun _ k => XS.iconst X99.here hx rfl (hb hby at_219) k) ?_
      show own_Go _ _ _ _ T99 (mkF m 220 #[.val (.long q_1), .second, .val (.long q_2), .second, .val (.long q_3), .second, .val (.long q_4), .second, .val (.int r2), .val (.int r4), .val (.int r6), .val (.int r8), .val (.int r10), .val (.int r12), .val (.int r14), .val (.int r16), .val (.int r18), .val (.int r20), .val (.int r22), .val (.int r24), .val (.int r26), .val (.int r28), .val (.int r30), .val (.int r32), .val (.ref b33), .val (.ref b47), .val (.int (1 : Int32)), .unset, .unset] [(.int (1 : Int32))])
      refine own_go (fun _ k => XS.goto X99.here hx rfl (pc0 := 220) (pc' := 224) rfl (hb hby at_220) (by decide) (by decide) k) ?_
      show own_Go _ _ _ _ T99 (mkF m 224 #[.val (.long q_1), .second, .val (.long q_2), .second, .val (.long q_3), .second, .val (.long q_4), .second, .val (.int r2), .val (.int r4), .val (.int r6), .val (.int r8), .val (.int r10), .val (.int r12), .val (.int r14), .val (.int r16), .val (.int r18), .val (.int r20), .val (.int r22), .val (.int r24), .val (.int r26), .val (.int r28), .val (.int r30), .val (.int r32), .val (.ref b33), .val (.ref b47), .val (.int (1 : Int32)), .unset, .unset] [(.int (1 : Int32))])
      refine own_go (fun _ k => XS.istore X99.here hx rfl (hb hby at_224) rfl (l' := #[.val (.long q_1), .second, .val (.long q_2), .second, .val (.long q_3), .second, .val (.long q_4), .second, .val (.int r2), .val (.int r4), .val (.int r6), .val (.int r8), .val (.int r10), .val (.int r12), .val (.int r14), .val (.int r16), .val (.int r18), .val (.int r20), .val (.int r22), .val (.int r24), .val (.int r26), .val (.int r28), .val (.int r30), .val (.int r32), .val (.ref b33), .val (.ref b47), .val (.int (1 : Int32)), .val (.int (1 : Int32)), .unset]) rfl k) ?_
      show own_Go _ _ _ _ T99 (mkF m 226 #[.val (.long q_1), .second, .val (.long q_2), .second, .val (.long q_3), .second, .val (.long q_4), .second, .val (.int r2), .val (.int r4), .val (.int r6), .val (.int r8), .val (.int r10), .val (.int r12), .val (.int r14), .val (.int r16), .val (.int r18), .val (.int r20), .val (.int r22), .val (.int r24), .val (.int r26), .val (.int r28), .val (.int r30), .val (.int r32), .val (.ref b33), .val (.ref b47), .val (.int (1 : Int32)), .val (.int (1 : Int32)), .unset] [])
      refine own_go (fun _ k => XS.iload X99.here hx rfl (hb hby at_226) rfl k) ?_
      show own_Go _ _ _ _ T99 (mkF m 228 #[.val (.long q_1), .second, .val (.long q_2), .second, .val (.long q_3), .second, .val (.long q_4), .second, .val (.int r2), .val (.int r4), .val (.int r6), .val (.int r8), .val (.int r10), .val (.int r12), .val (.int r14), .val (.int r16), .val (.int r18), .val (.int r20), .val (.int r22), .val (.int r24), .val (.int r26), .val (.int r28), .val (.int r30), .val (.int r32), .val (.ref b33), .val (.ref b47), .val (.int (1 : Int32)), .val (.int (1 : Int32)), .unset] [(.int (1 : Int32))])
      have hc116 : ¬ ((1 : Int32) = 0) := by decide
      refine own_go (fun _ k => XS.ifNo X99.here hx rfl (hb hby at_228) rfl (Jvm.Free.XT.i0_eq_f hc116) k) ?_
      show own_Go _ _ _ _ T99 (mkF m 231 #[.val (.long q_1), .second, .val (.long q_2), .second, .val (.long q_3), .second, .val (.long q_4), .second, .val (.int r2), .val (.int r4), .val (.int r6), .val (.int r8), .val (.int r10), .val (.int r12), .val (.int r14), .val (.int r16), .val (.int r18), .val (.int r20), .val (.int r22), .val (.int r24), .val (.int r26), .val (.int r28), .val (.int r30), .val (.int r32), .val (.ref b33), .val (.ref b47), .val (.int (1 : Int32)), .val (.int (1 : Int32)), .unset] [])
      refine own_go (fun _ k => XS.iload X99.here hx rfl (hb hby at_231) rfl k) ?_
      show own_Go _ _ _ _ T99 (mkF m 233 #[.val (.long q_1), .second, .val (.long q_2), .second, .val (.long q_3), .second, .val (.long q_4), .second, .val (.int r2), .val (.int r4), .val (.int r6), .val (.int r8), .val (.int r10), .val (.int r12), .val (.int r14), .val (.int r16), .val (.int r18), .val (.int r20), .val (.int r22), .val (.int r24), .val (.int r26), .val (.int r28), .val (.int r30), .val (.int r32), .val (.ref b33), .val (.ref b47), .val (.int (1 : Int32)), .val (.int (1 : Int32)), .unset] [(.int (1 : Int32))])
      have hc117 : ¬ ((1 : Int32) = 0) := by decide
      refine own_go (fun _ k => XS.ifNo X99.here hx rfl (hb hby at_233) rfl (Jvm.Free.XT.i0_eq_f hc117) k) ?_
      show own_Go _ _ _ _ T99 (mkF m 236 #[.val (.long q_1), .second, .val (.long q_2), .second, .val (.long q_3), .second, .val (.long q_4), .second, .val (.int r2), .val (.int r4), .val (.int r6), .val (.int r8), .val (.int r10), .val (.int r12), .val (.int r14), .val (.int r16), .val (.int r18), .val (.int r20), .val (.int r22), .val (.int r24), .val (.int r26), .val (.int r28), .val (.int r30), .val (.int r32), .val (.ref b33), .val (.ref b47), .val (.int (1 : Int32)), .val (.int (1 : Int32)), .unset] [])
      refine own_go (fun _ k => XS.iconst X99.here hx rfl (hb hby at_236) k) ?_
      show own_Go _ _ _ _ T99 (mkF m 237 #[.val (.long q_1), .second, .val (.long q_2), .second, .val (.long q_3), .second, .val (.long q_4), .second, .val (.int r2), .val (.int r4), .val (.int r6), .val (.int r8), .val (.int r10), .val (.int r12), .val (.int r14), .val (.int r16), .val (.int r18), .val (.int r20), .val (.int r22), .val (.int r24), .val (.int r26), .val (.int r28), .val (.int r30), .val (.int r32), .val (.ref b33), .val (.ref b47), .val (.int (1 : Int32)), .val (.int (1 : Int32)), .unset] [(.int (1 : Int32))])
      refine own_go (fun _ k => XS.goto X99.here hx rfl (pc0 := 237) (pc' := 241) rfl (hb hby at_237) (by decide) (by decide) k) ?_
      show own_Go _ _ _ _ T99 (mkF m 241 #[.val (.long q_1), .second, .val (.long q_2), .second, .val (.long q_3), .second, .val (.long q_4), .second, .val (.int r2), .val (.int r4), .val (.int r6), .val (.int r8), .val (.int r10), .val (.int r12), .val (.int r14), .val (.int r16), .val (.int r18), .val (.int r20), .val (.int r22), .val (.int r24), .val (.int r26), .val (.int r28), .val (.int r30), .val (.int r32), .val (.ref b33), .val (.ref b47), .val (.int (1 : Int32)), .val (.int (1 : Int32)), .unset] [(.int (1 : Int32))])
      refine own_go (fun _ k => XS.istore X99.here hx rfl (hb hby at_241) rfl (l' := #[.val (.long q_1), .second, .val (.long q_2), .second, .val (.long q_3), .second, .val (.long q_4), .second, .val (.int r2), .val (.int r4), .val (.int r6), .val (.int r8), .val (.int r10), .val (.int r12), .val (.int r14), .val (.int r16), .val (.int r18), .val (.int r20), .val (.int r22), .val (.int r24), .val (.int r26), .val (.int r28), .val (.int r30), .val (.int r32), .val (.ref b33), .val (.ref b47), .val (.int (1 : Int32)), .val (.int (1 : Int32)), .val (.int (1 : Int32))]) rfl k) ?_
      show own_Go _ _ _ _ T99 (mkF m 243 #[.val (.long q_1), .second, .val (.long q_2), .second, .val (.long q_3), .second, .val (.long q_4), .second, .val (.int r2), .val (.int r4), .val (.int r6), .val (.int r8), .val (.int r10), .val (.int r12), .val (.int r14), .val (.int r16), .val (.int r18), .val (.int r20), .val (.int r22), .val (.int r24), .val (.int r26), .val (.int r28), .val (.int r30), .val (.int r32), .val (.ref b33), .val (.ref b47), .val (.int (1 : Int32)), .val (.int (1 : Int32)), .val (.int (1 : Int32))] [])
      refine own_go (fun _ k => XS.aload X99.here hx rfl (hb hby at_243) rfl rfl k) ?_
      show own_Go _ _ _ _ T99 (mkF m 245 #[.val (.long q_1), .second, .val (.long q_2), .second, .val (.long q_3), .second, .val (.long q_4), .second, .val (.int r2), .val (.int r4), .val (.int r6), .val (.int r8), .val (.int r10), .val (.int r12), .val (.int r14), .val (.int r16), .val (.int r18), .val (.int r20), .val (.int r22), .val (.int r24), .val (.int r26), .val (.int r28), .val (.int r30), .val (.int r32), .val (.ref b33), .val (.ref b47), .val (.int (1 : Int32)), .val (.int (1 : Int32)), .val (.int (1 : Int32))] [(.ref b33)])
      refine own_go (fun _ k => XS.aload X99.here hx rfl (hb hby at_245) rfl rfl k) ?_
      show own_Go _ _ _ _ T99 (mkF m 247 #[.val (.long q_1), .second, .val (.long q_2), .second, .val (.long q_3), .second, .val (.long q_4), .second, .val (.int r2), .val (.int r4), .val (.int r6), .val (.int r8), .val (.int r10), .val (.int r12), .val (.int r14), .val (.int r16), .val (.int r18), .val (.int r20), .val (.int r22), .val (.int r24), .val (.int r26), .val (.int r28), .val (.int r30), .val (.int r32), .val (.ref b33), .val (.ref b47), .val (.int (1 : Int32)), .val (.int (1 : Int32)), .val (.int (1 : Int32))] [(.ref b47), (.ref b33)])
      have f118 : Fld Z T49.heap b33 "com/example/ratebook/ratebook/CellRange" "firstRow" "I" (.int r18) := ((f37.ext E47).keep K49q (ninS (own_ne (by omega)) nin0))
      have f119 : Fld Z T49.heap b33 "com/example/ratebook/ratebook/CellRange" "lastRow" "I" (.int r20) := ((f39.ext E47).keep K49q (ninS (own_ne (by omega)) nin0))
      have f120 : Fld Z T49.heap b33 "com/example/ratebook/ratebook/CellRange" "firstColumn" "I" (.int r22) := ((f38.ext E47).keep K49q (ninS (own_ne (by omega)) nin0))
      have f121 : Fld Z T49.heap b33 "com/example/ratebook/ratebook/CellRange" "lastColumn" "I" (.int r24) := ((f40.ext E47).keep K49q (ninS (own_ne (by omega)) nin0))
      have f123 : Exa Z T49.heap b33 "com/example/ratebook/ratebook/CellRange" := ((f36.ext E47).keep K49q)
      obtain ⟨cq122, kq122, q122a, q122b, q122c⟩ := isOf hZ e99 f123
      obtain ⟨_, _, ⟨T122, L122, k122, n122⟩, -, X122, ⟨Lc122, hQ122, l122, y122, z122⟩, st122⟩ := X99.virtualBack hx (y := (⟨"com/example/ratebook/ratebook/CellRange", "overlaps", "(Lcom/example/ratebook/ratebook/CellRange;)Z"⟩ : MethodName)) (z := (⟨"com/example/ratebook/ratebook/CellRange", "overlaps", "(Lcom/example/ratebook/ratebook/CellRange;)Z"⟩ : MethodName)) hown (mvT hZ (hw _ (List.mem_of_getElem? (i := 38) rfl))) (mvT hZ (hw _ (List.mem_of_getElem? (i := 39) rfl))) (notFace_of_selects (args := #[]) (mvT hZ (hw _ (List.mem_of_getElem? (i := 41) rfl)))) (mvT hZ (hw _ (List.mem_of_getElem? (i := 41) rfl))) (mvT hZ (hw _ (List.mem_of_getElem? (i := 40) rfl))) (by decide) (backOf (W := 0) (own_rm8 l Z a0 hw [] b33 b47 r18 r28 r26 r20 r22 r32 r30 r24 T49.heap n0 (by omega) f118 f53 f51 f119 f120 f54 f52 f121) hZ (hw _ (List.mem_of_getElem? (i := 42) rfl)) (hw _ (List.mem_of_getElem? (i := 18) rfl)) (by decide) (by decide)) q122a q122c (g := (mkF m 247 #[.val (.long q_1), .second, .val (.long q_2), .second, .val (.long q_3), .second, .val (.long q_4), .second, .val (.int r2), .val (.int r4), .val (.int r6), .val (.int r8), .val (.int r10), .val (.int r12), .val (.int r14), .val (.int r16), .val (.int r18), .val (.int r20), .val (.int r22), .val (.int r24), .val (.int r26), .val (.int r28), .val (.int r30), .val (.int r32), .val (.ref b33), .val (.ref b47), .val (.int (1 : Int32)), .val (.int (1 : Int32)), .val (.int (1 : Int32))] [(.ref b47), (.ref b33)])) rfl (by rw [hml]; rfl) (Steps.refl _) (argsL := [(.ref b47)]) (rest := []) (lenOf own_pd4 rfl) rfl (by show 2 * 0 + _ ≤ _; exact Nat.le_of_eq rfl) (hb hby at_247) (fun _ _ => ⟨rfl, e99, (by show k99 + _ ≤ _; rw [y99]; decide), (by show n99 + _ ≤ _; rw [z99]; decide)⟩)
      dsimp only [Pt.U, Pt.locs, Pt.cells, Pt.slots] at X122 l122 y122 z122 st122 hQ122
      have y122 : k122 = 2 := own_addeq y122 (congrArg (fun q => q) y99) rfl
      have z122 : n122 = 8 := own_addeq z122 (congrArg (fun q => q) z99) rfl
      obtain ⟨r124, rfl, N122q, hr_r124, e122⟩ := hQ122
      have N122 : Fr n0 L122 := by rw [l122]; exact Fr.app N99 N122q
      refine own_go (fun _ k => st122.trans k) ?_
      show own_Go _ _ _ _ T122 (mkF m 250 #[.val (.long q_1), .second, .val (.long q_2), .second, .val (.long q_3), .second, .val (.long q_4), .second, .val (.int r2), .val (.int r4), .val (.int r6), .val (.int r8), .val (.int r10), .val (.int r12), .val (.int r14), .val (.int r16), .val (.int r18), .val (.int r20), .val (.int r22), .val (.int r24), .val (.int r26), .val (.int r28), .val (.int r30), .val (.int r32), .val (.ref b33), .val (.ref b47), .val (.int (1 : Int32)), .val (.int (1 : Int32)), .val (.int (1 : Int32))] [(.int r124)])
      refine own_go (fun _ k => XS.iload X122.here hx rfl (hb hby at_250) rfl k) ?_
      show own_Go _ _ _ _ T122 (mkF m 252 #[.val (.long q_1), .second, .val (.long q_2), .second, .val (.long q_3), .second, .val (.long q_4), .second, .val (.int r2), .val (.int r4), .val (.int r6), .val (.int r8), .val (.int r10), .val (.int r12), .val (.int r14), .val (.int r16), .val (.int r18), .val (.int r20), .val (.int r22), .val (.int r24), .val (.int r26), .val (.int r28), .val (.int r30), .val (.int r32), .val (.ref b33), .val (.ref b47), .val (.int (1 : Int32)), .val (.int (1 : Int32)), .val (.int (1 : Int32))] [(.int (1 : Int32)), (.int r124)])
      have hc125 : r124 = (1 : Int32) := own_t0_6 q_1 q_2 q_3 q_4 r2 r4 r6 r8 r10 r12 r14 r16 r18 r20 r22 r24 r26 r28 r30 r32 r62 r64 r98 r100 r124 hr_r2 hr_r4 hr_r6 hr_r8 hr_r10 hr_r12 hr_r14 hr_r16 hr_r18 hr_r20 hr_r22 hr_r24 hr_r26 hr_r28 hr_r30 hr_r32 hr_r62 hr_r64 hc65 hr_r98 hr_r100 hc101 hr_r124
      refine own_go (fun _ k => XS.icmpNo X122.here hx rfl (hb hby at_252) rfl (Jvm.Free.XT.ii_ne_f hc125) k) ?_
      show own_Go _ _ _ _ T122 (mkF m 255 #[.val (.long q_1), .second, .val (.long q_2), .second, .val (.long q_3), .second, .val (.long q_4), .second, .val (.int r2), .val (.int r4), .val (.int r6), .val (.int r8), .val (.int r10), .val (.int r12), .val (.int r14), .val (.int r16), .val (.int r18), .val (.int r20), .val (.int r22), .val (.int r24), .val (.int r26), .val (.int r28), .val (.int r30), .val (.int r32), .val (.ref b33), .val (.ref b47), .val (.int (1 : Int32)), .val (.int (1 : Int32)), .val (.int (1 : Int32))] [])
      refine own_go (fun _ k => XS.aload X122.here hx rfl (hb hby at_255) rfl rfl k) ?_
      show own_Go _ _ _ _ T122 (mkF m 257 #[.val (.long q_1), .second, .val (.long q_2), .second, .val (.long q_3), .second, .val (.long q_4), .second, .val (.int r2), .val (.int r4), .val (.int r6), .val (.int r8), .val (.int r10), .val (.int r12), .val (.int r14), .val (.int r16), .val (.int r18), .val (.int r20), .val (.int r22), .val (.int r24), .val (.int r26), .val (.int r28), .val (.int r30), .val (.int r32), .val (.ref b33), .val (.ref b47), .val (.int (1 : Int32)), .val (.int (1 : Int32)), .val (.int (1 : Int32))] [(.ref b47)])
      refine own_go (fun _ k => XS.aload X122.here hx rfl (hb hby at_257) rfl rfl k) ?_
      show own_Go _ _ _ _ T122 (mkF m 259 #[.val (.long q_1), .second, .val (.long q_2), .second, .val (.long q_3), .second, .val (.long q_4), .second, .val (.int r2), .val (.int r4), .val (.int r6), .val (.int r8), .val (.int r10), .val (.int r12), .val (.int r14), .val (.int r16), .val (.int r18), .val (.int r20), .val (.int r22), .val (.int r24), .val (.int r26), .val (.int r28), .val (.int r30), .val (.int r32), .val (.ref b33), .val (.ref b47), .val (.int (1 : Int32)), .val (.int (1 : Int32)), .val (.int (1 : Int32))] [(.ref b33), (.ref b47)])
      obtain ⟨cq126, kq126, q126a, q126b, q126c⟩ := isOf hZ e122 f50
      obtain ⟨_, _, ⟨T126, L126, k126, n126⟩, -, X126, ⟨Lc126, hQ126, l126, y126, z126⟩, st126⟩ := X122.virtualBack hx (y := (⟨"com/example/ratebook/ratebook/CellRange", "overlaps", "(Lcom/example/ratebook/ratebook/CellRange;)Z"⟩ : MethodName)) (z := (⟨"com/example/ratebook/ratebook/CellRange", "overlaps", "(Lcom/example/ratebook/ratebook/CellRange;)Z"⟩ : MethodName)) hown (mvT hZ (hw _ (List.mem_of_getElem? (i := 38) rfl))) (mvT hZ (hw _ (List.mem_of_getElem? (i := 39) rfl))) (notFace_of_selects (args := #[]) (mvT hZ (hw _ (List.mem_of_getElem? (i := 41) rfl)))) (mvT hZ (hw _ (List.mem_of_getElem? (i := 41) rfl))) (mvT hZ (hw _ (List.mem_of_getElem? (i := 40) rfl))) (by decide) (backOf (W := 0) (own_rm8 l Z a0 hw [] b47 b33 r26 r20 r18 r28 r30 r24 r22 r32 T49.heap n0 (by omega) f51 f119 f118 f53 f52 f121 f120 f54) hZ (hw _ (List.mem_of_getElem? (i := 42) rfl)) (hw _ (List.mem_of_getElem? (i := 18) rfl)) (by decide) (by decide)) q126a q126c (g := (mkF m 259 #[.val (.long q_1), .second, .val (.long q_2), .second, .val (.long q_3), .second, .val (.long q_4), .second, .val (.int r2), .val (.int r4), .val (.int r6), .val (.int r8), .val (.int r10), .val (.int r12), .val (.int r14), .val (.int r16), .val (.int r18), .val (.int r20), .val (.int r22), .val (.int r24), .val (.int r26), .val (.int r28), .val (.int r30), .val (.int r32), .val (.ref b33), .val (.ref b47), .val (.int (1 : Int32)), .val (.int (1 : Int32)), .val (.int (1 : Int32))] [(.ref b33), (.ref b47)])) rfl (by rw [hml]; rfl) (Steps.refl _) (argsL := [(.ref b33)]) (rest := []) (lenOf own_pd4 rfl) rfl (by show 2 * 0 + _ ≤ _; exact Nat.le_of_eq rfl) (hb hby at_259) (fun _ _ => ⟨rfl, e122, (by show k122 + _ ≤ _; rw [y122]; decide), (by show n122 + _ ≤ _; rw [z122]; decide)⟩)
      dsimp only [Pt.U, Pt.locs, Pt.cells, Pt.slots] at X126 l126 y126 z126 st126 hQ126
      have y126 : k126 = 2 := own_addeq y126 (congrArg (fun q => q) y122) rfl
      have z126 : n126 = 8 := own_addeq z126 (congrArg (fun q => q) z122) rfl
      obtain ⟨r127, rfl, N126q, hr_r127, e126⟩ := hQ126
      have N126 : Fr n0 L126 := by rw [l126]; exact Fr.app N122 N126q
      refine own_go (fun _ k => st126.trans k) ?_
      show own_Go _ _ _ _ T126 (mkF m 262 #[.val (.long q_1), .second, .val (.long q_2), .second, .val (.long q_3), .second, .val (.long q_4), .second, .val (.int r2), .val (.int r4), .val (.int r6), .val (.int r8), .val (.int r10), .val (.int r12), .val (.int r14), .val (.int r16), .val (.int r18), .val (.int r20), .val (.int r22), .val (.int r24), .val (.int r26), .val (.int r28), .val (.int r30), .val (.int r32), .val (.ref b33), .val (.ref b47), .val (.int (1 : Int32)), .val (.int (1 : Int32)), .val (.int (1 : Int32))] [(.int r127)])
      refine own_go (fun _ k => XS.iload X126.here hx rfl (hb hby at_262) rfl k) ?_
      show own_Go _ _ _ _ T126 (mkF m 264 #[.val (.long q_1), .second, .val (.long q_2), .second, .val (.long q_3), .second, .val (.long q_4), .second, .val (.int r2), .val (.int r4), .val (.int r6), .val (.int r8), .val (.int r10), .val (.int r12), .val (.int r14), .val (.int r16), .val (.int r18), .val (.int r20), .val (.int r22), .val (.int r24), .val (.int r26), .val (.int r28), .val (.int r30), .val (.int r32), .val (.ref b33), .val (.ref b47), .val (.int (1 : Int32)), .val (.int (1 : Int32)), .val (.int (1 : Int32))] [(.int (1 : Int32)), (.int r127)])
      have hc128 : r127 = (1 : Int32) := own_t0_7 q_1 q_2 q_3 q_4 r2 r4 r6 r8 r10 r12 r14 r16 r18 r20 r22 r24 r26 r28 r30 r32 r62 r64 r98 r100 r124 r127 hr_r2 hr_r4 hr_r6 hr_r8 hr_r10 hr_r12 hr_r14 hr_r16 hr_r18 hr_r20 hr_r22 hr_r24 hr_r26 hr_r28 hr_r30 hr_r32 hr_r62 hr_r64 hc65 hr_r98 hr_r100 hc101 hr_r124 hc125 hr_r127
      refine own_go (fun _ k => XS.icmpNo X126.here hx rfl (hb hby at_264) rfl (Jvm.Free.XT.ii_ne_f hc128) k) ?_
      show own_Go _ _ _ _ T126 (mkF m 267 #[.val (.long q_1), .second, .val (.long q_2), .second, .val (.long q_3), .second, .val (.long q_4), .second, .val (.int r2), .val (.int r4), .val (.int r6), .val (.int r8), .val (.int r10), .val (.int r12), .val (.int r14), .val (.int r16), .val (.int r18), .val (.int r20), .val (.int r22), .val (.int r24), .val (.int r26), .val (.int r28), .val (.int r30), .val (.int r32), .val (.ref b33), .val (.ref b47), .val (.int (1 : Int32)), .val (.int (1 : Int32)), .val (.int (1 : Int32))] [])
      refine own_go (fun _ k => XS.iconst X126.here hx rfl (hb hby at_267) k) ?_
      show own_Go _ _ _ _ T126 (mkF m 268 #[.val (.long q_1), .second, .val (.long q_2), .second, .val (.long q_3), .second, .val (.long q_4), .second, .val (.int r2), .val (.int r4), .val (.int r6), .val (.int r8), .val (.int r10), .val (.int r12), .val (.int r14), .val (.int r16), .val (.int r18), .val (.int r20), .val (.int r22), .val (.int r24), .val (.int r26), .val (.int r28), .val (.int r30), .val (.int r32), .val (.ref b33), .val (.ref b47), .val (.int (1 : Int32)), .val (.int (1 : Int32)), .val (.int (1 : Int32))] [(.int (1 : Int32))])
      refine own_go (fun _ k => XS.goto X126.here hx rfl (pc0 := 268) (pc' := 272) rfl (hb hby at_268) (by decide) (by decide) k) ?_
      show own_Go _ _ _ _ T126 (mkF m 272 #[.val (.long q_1), .second, .val (.long q_2), .second, .val (.long q_3), .second, .val (.long q_4), .second, .val (.int r2), .val (.int r4), .val (.int r6), .val (.int r8), .val (.int r10), .val (.int r12), .val (.int r14), .val (.int r16), .val (.int r18), .val (.int r20), .val (.int r22), .val (.int r24), .val (.int r26), .val (.int r28), .val (.int r30), .val (.int r32), .val (.ref b33), .val (.ref b47), .val (.int (1 : Int32)), .val (.int (1 : Int32)), .val (.int (1 : Int32))] [(.int (1 : Int32))])
      obtain ⟨fs, hr, hrun, hended, hW, hsame⟩ := X126.leave (v := some (.int (1 : Int32))) (fun h => by rw [Bd.returns] at h; cases h)
      refine ⟨_, _, retOut X126 hx Bd.returns rfl (Or.inl ⟨rfl, Or.inr (Or.inl rfl), _, rfl⟩) (hb hby at_272) hr, hrun, hended, _, _, rfl, ?_, ⟨_, rfl⟩, hW, hsame.mono (by rw [y126]; decide) (by rw [z126]; decide)⟩
      show own_Q0 Z q_1 q_2 q_3 q_4 h0 n0 _ T126.heap _
      rw [e126]
      exact ⟨rfl, N126⟩
set_option maxRecDepth 65536 in
set_option maxHeartbeats 40000000 in
theorem comes_1 {Post : Tables → Env → Array Value → State → Outcome → State → Prop} (hpost : ∀ tb e args s v u, (limb_1_1.after args s (.returned v) u = true ∧ limb_1_2.after args s (.returned v) u = true ∧ True) → FrameEnd s (.returned v) u (Jvm.fieldLocs frame_1_writes args s ++ Jvm.arrayLocs frame_1_arrays args s ++ Jvm.staticLocs frame_1_statics s) 16 128 → Post tb e args s (.returned v) u) :
    ArmFor flags0 classFile x code maxLocals ret World_1 tables_1 room_1 Calls_1 rest_1 Pre_1 Post := by
  intro l hfl _ _ p e ha hc hk s m args below hf hA hF happ hP
  obtain ⟨hcalls, hrest, hpre⟩ := hP
  obtain ⟨-, -, -, hnamed, -, -, -, hat⟩ := (Spec.applies_iff hf).mp happ
  obtain ⟨hg, hn⟩ := and_e (Cond.before_iff.mp (show (Jvm.Cond.and given_1 narrow_1).before args s = true from hpre))
  obtain ⟨g1, g2⟩ := and_e hg
  obtain ⟨g3, g4⟩ := and_e g2
  obtain ⟨g5, g6⟩ := and_e g4
  obtain ⟨g7, g8⟩ := and_e g6
  obtain ⟨w0, w1, w2, w3, rfl⟩ : ∃ w0 w1 w2 w3 : Value, args = #[w0, w1, w2, w3] := by
    have hs : args.size = 4 := by simpa [Cond.value, given_1] using g1
    obtain ⟨L⟩ := args
    match L, hs with
    | [w0, w1, w2, w3], _ => exact ⟨w0, w1, w2, w3, rfl⟩
  have hw := fun d (hd : d ∈ tables_1) => atoms_spec (ws := Jvm.Cond.code x code maxLocals ret :: tables_1) hat d (List.mem_cons_of_mem _ hd)
  have hfit : Fit s := fun {y c} hc i hi => by
    obtain ⟨ha, rfl⟩ := Array.getElem?_eq_some_iff.mp hc
    have q := List.all_eq_true.mp ((Array.all_eq_true_iff_forall_mem.mp hF) _ (Array.getElem_mem ha)) i (List.mem_range.mpr hi)
    simpa [Array.getElem?_eq_getElem hi] using q
  obtain ⟨i0, ei0⟩ := isL_v g3
  obtain rfl : w0 = (.long i0) := Option.some.inj ei0
  obtain ⟨i1, ei1⟩ := isL_v g5
  obtain rfl : w1 = (.long i1) := Option.some.inj ei1
  obtain ⟨i2, ei2⟩ := isL_v g7
  obtain rfl : w2 = (.long i2) := Option.some.inj ei2
  obtain ⟨i3, ei3⟩ := isL_v g8
  obtain rfl : w3 = (.long i3) := Option.some.inj ei3
  obtain ⟨n, o, h1, h2, h3, _, L, rfl, ⟨rfl, N⟩, hq⟩ := own_rm0 l s _ hw tables_1 i0 i1 i2 i3  s.heap s.heap.size (Nat.le_refl _)  p e ha hc hk s m _ below hf ((Spec.applies_iff_loose hf).mp happ).1 ⟨rfl, State.Warmed39.refl s, rfl⟩ trivial
  refine ⟨n, _, h1, h2, h3, hpost _ _ _ _ _ _ ⟨Cond.after_iff.mpr rfl, Cond.after_iff.mpr (eq_i res_at (Term.int_eval (1)) rfl), trivial⟩ ⟨hq.1, hq.2.1, (hq.2.2.sift fun y hy => Or.inr (N y hy)).mono (by decide) (by decide)⟩⟩
theorem main_1_1 : Claimed_1_1 := comes_1 fun _ _ _ _ _ _ h hF => ⟨h.1, hF⟩
theorem main_1_2 : Claimed_1_2 := comes_1 fun _ _ _ _ _ _ h hF => ⟨h.2.1, hF⟩
end Jvm.Pilot.@@N@@
namespace Jvm.Pilot.@@N@@
open Jvm Jvm.ClassFile Sem Op Lib Jvm.Free Jvm.Stand Jvm.Pilot.@@N@@.Jvm.D
/-! MADE BY PROGRAM (witnessworld.py) out of the Statement's table words and the real class files: 11 classes; the members and pool entries that the words name. The judged class is class 1, her method 3. -/
namespace start1
open Jvm.ClassFile
def u (s : String) : CpInfo := .utf8 (stringToUtf16 s)
/-- a pool by its gaps: so many unusable entries, then the entry; so many at the end -/
def gap : Nat → List CpInfo → List CpInfo
  | 0, r => r
  | n + 1, r => .unusable :: gap n r
def poolList (es : List (Nat × CpInfo)) (last : Nat) : List CpInfo := es.foldr (fun e r => gap e.1 (e.2 :: r)) (gap last [])
def pool (es : List (Nat × CpInfo)) (last : Nat) : Array CpInfo := ⟨poolList es last⟩
def fileOf (pool : Array CpInfo) (this : Nat) (attrs : Array Attribute := #[]) (ms : Array MethodInfo := #[]) (fl : Nat := 33) (sup : Nat := 0) (ifs : Array Nat := #[]) (fds : Array FieldInfo := #[]) : ClassFile where
  minorVersion := 0
  majorVersion := 65
  constantPool := pool
  accessFlags := fl
  thisClass := this
  superClass := sup
  interfaces := ifs
  fields := fds
  methods := ms
  attributes := attrs
def plain (name : String) (sup : Option ClassId) : Class where
  name := name
  kind := .ordinary
  loader := none
  accessFlags := 33
  super := sup
  interfaces := #[]
  cf := none
  fields := #[]
  methods := #[]
  instanceTypes := #[]
  staticTypes := #[]
  resolved := #[]
  callSites := []
  init := .initialized
  statics := none
  mirror := none

def pool0 : Array CpInfo := pool [(5, u "<init>"), (0, u "()V"), (1, .class_ 10), (1, u "java/lang/Object")] 113

def k0c0 : Code := { maxStack := 0, maxLocals := 1, code := object_method_1_code, exceptionTable := #[], attributes := #[] }
def k0m0 : Method := { name := "<init>", desc := "()V", sig := { parameters := [], returnType := none }, accessFlags := 1, code := some k0c0 }
/-- java/lang/Object -/
def k0 : Class := { plain "java/lang/Object" none with
  accessFlags := 33
  interfaces := #[]
  cf := some (fileOf pool0 8 #[] #[{ accessFlags := 1, nameIndex := 5, descriptorIndex := 6, attributes := #[] }] 33 0 #[] #[])
  fields := #[]
  methods := #[k0m0]
  instanceTypes := #[]
  staticTypes := #[]
  resolved := Array.replicate 124 none
  statics := none }

def pool1 : Array CpInfo := pool [(2, .class_ 4), (1, u "java/lang/Object"), (0, u "<init>"), (0, u "()V"), (0, .integer 2147483647), (0, .class_ 9), (0, u "com/example/ratebook/ratebook/CellRange"), (0, .integer 1048576), (0, .methodref 12 13), (0, .class_ 14), (0, .nameAndType 15 16), (0, u "com/example/ratebook/ratebook/CellRangeOverlapsPinLaw"), (0, u "row"), (0, u "(I)I"), (0, .methodref 12 18), (0, .nameAndType 19 16), (0, u "col"), (0, .methodref 21 22), (0, .class_ 23), (0, .nameAndType 24 25), (0, u "java/lang/Math"), (0, u "min"), (0, u "(II)I"), (0, .methodref 21 27), (0, .nameAndType 28 25), (0, u "max"), (0, .methodref 8 30), (0, .nameAndType 5 31), (0, u "(IIII)V"), (0, .methodref 8 33), (0, .nameAndType 34 35), (0, u "overlaps"), (0, u "(Lcom/example/ratebook/ratebook/CellRange;)Z"), (2, u "law"), (0, u "(JJJJ)Z")] 3

def k1m0 : Method := { name := "<init>", desc := "()V", sig := { parameters := [], returnType := none }, accessFlags := 1, code := none }
def k1c1 : Code := { maxStack := 2, maxLocals := 1, code := method_2_code, exceptionTable := #[], attributes := #[] }
def k1m1 : Method := { name := "row", desc := "(I)I", sig := { parameters := [.int], returnType := some .int }, accessFlags := 10, code := some k1c1 }
def k1c2 : Code := { maxStack := 2, maxLocals := 1, code := method_3_code, exceptionTable := #[], attributes := #[] }
def k1m2 : Method := { name := "col", desc := "(I)I", sig := { parameters := [.int], returnType := some .int }, accessFlags := 10, code := some k1c2 }
def k1c3 : Code := { maxStack := 6, maxLocals := 29, code := code, exceptionTable := #[], attributes := #[] }
def k1m3 : Method := { name := "law", desc := "(JJJJ)Z", sig := { parameters := [.long, .long, .long, .long], returnType := some .boolean }, accessFlags := 9, code := some k1c3 }
/-- com/example/ratebook/ratebook/CellRangeOverlapsPinLaw -/
def k1 : Class := { plain "com/example/ratebook/ratebook/CellRangeOverlapsPinLaw" (some 0) with
  accessFlags := 49
  interfaces := #[]
  cf := some (fileOf pool1 12 #[] #[{ accessFlags := 1, nameIndex := 5, descriptorIndex := 6, attributes := #[] }, { accessFlags := 10, nameIndex := 15, descriptorIndex := 16, attributes := #[] }, { accessFlags := 10, nameIndex := 19, descriptorIndex := 16, attributes := #[] }, { accessFlags := 9, nameIndex := 38, descriptorIndex := 39, attributes := #[] }] 49 2 #[] #[])
  fields := #[]
  methods := #[k1m0, k1m1, k1m2, k1m3]
  instanceTypes := #[]
  staticTypes := #[]
  resolved := Array.replicate 43 none
  statics := none }

def pool2 : Array CpInfo := pool [(1, .class_ 2), (0, u "java/lang/Math"), (1, .class_ 6), (1, u "java/lang/Object"), (0, u "<init>"), (0, u "()V"), (89, .class_ 100), (1, u "java/lang/Math$RandomNumberGeneratorHolder"), (71, u "negativeZeroFloatBits"), (0, u "J"), (2, u "negativeZeroDoubleBits"), (21, u "max"), (2, u "min"), (43, u "$assertionsDisabled"), (0, u "Z"), (88, u "(II)I"), (2, u "twoToTheDoubleScaleDown"), (0, u "D"), (4, u "twoToTheDoubleScaleUp"), (9, u "E"), (3, u "PI"), (2, u "TAU"), (2, u "DEGREES_TO_RADIANS"), (0, u "RADIANS_TO_DEGREES")] 94

def k2m0 : Method := { name := "<init>", desc := "()V", sig := { parameters := [], returnType := none }, accessFlags := 2, code := none }
def k2c1 : Code := { maxStack := 2, maxLocals := 2, code := jdk_29_method_65_code, exceptionTable := #[], attributes := #[] }
def k2m1 : Method := { name := "max", desc := "(II)I", sig := { parameters := [.int, .int], returnType := some .int }, accessFlags := 9, code := some k2c1 }
def k2c2 : Code := { maxStack := 2, maxLocals := 2, code := jdk_29_method_69_code, exceptionTable := #[], attributes := #[] }
def k2m2 : Method := { name := "min", desc := "(II)I", sig := { parameters := [.int, .int], returnType := some .int }, accessFlags := 9, code := some k2c2 }
/-- java/lang/Math -/
def k2 : Class := { plain "java/lang/Math" (some 0) with
  accessFlags := 49
  interfaces := #[]
  cf := some (fileOf pool2 1 #[.nestMembers #[98]] #[{ accessFlags := 2, nameIndex := 7, descriptorIndex := 8, attributes := #[] }, { accessFlags := 9, nameIndex := 198, descriptorIndex := 335, attributes := #[] }, { accessFlags := 9, nameIndex := 201, descriptorIndex := 335, attributes := #[] }] 49 4 #[] #[{ accessFlags := 25, nameIndex := 354, descriptorIndex := 339, attributes := #[] }, { accessFlags := 25, nameIndex := 358, descriptorIndex := 339, attributes := #[] }, { accessFlags := 25, nameIndex := 361, descriptorIndex := 339, attributes := #[] }, { accessFlags := 26, nameIndex := 364, descriptorIndex := 339, attributes := #[] }, { accessFlags := 26, nameIndex := 365, descriptorIndex := 339, attributes := #[] }, { accessFlags := 26, nameIndex := 172, descriptorIndex := 173, attributes := #[] }, { accessFlags := 26, nameIndex := 176, descriptorIndex := 173, attributes := #[] }, { accessFlags := 8, nameIndex := 344, descriptorIndex := 339, attributes := #[] }, { accessFlags := 8, nameIndex := 338, descriptorIndex := 339, attributes := #[] }, { accessFlags := 4120, nameIndex := 245, descriptorIndex := 246, attributes := #[] }])
  fields := #[{ name := "E", type := .double, accessFlags := 25, slot := 0, constantValue := 0 }, { name := "PI", type := .double, accessFlags := 25, slot := 1, constantValue := 0 }, { name := "TAU", type := .double, accessFlags := 25, slot := 2, constantValue := 0 }, { name := "DEGREES_TO_RADIANS", type := .double, accessFlags := 26, slot := 3, constantValue := 0 }, { name := "RADIANS_TO_DEGREES", type := .double, accessFlags := 26, slot := 4, constantValue := 0 }, { name := "negativeZeroFloatBits", type := .long, accessFlags := 26, slot := 5, constantValue := 0 }, { name := "negativeZeroDoubleBits", type := .long, accessFlags := 26, slot := 6, constantValue := 0 }, { name := "twoToTheDoubleScaleUp", type := .double, accessFlags := 8, slot := 7, constantValue := 0 }, { name := "twoToTheDoubleScaleDown", type := .double, accessFlags := 8, slot := 8, constantValue := 0 }, { name := "$assertionsDisabled", type := .boolean, accessFlags := 4120, slot := 9, constantValue := 0 }]
  methods := #[k2m0, k2m1, k2m2]
  instanceTypes := #[]
  staticTypes := #[.double, .double, .double, .double, .double, .long, .long, .double, .double, .boolean]
  resolved := Array.replicate 460 none
  statics := none }

def pool3 : Array CpInfo := pool [(1, .methodref 2 3), (0, .class_ 4), (0, .nameAndType 5 6), (0, u "java/lang/Object"), (0, u "<init>"), (0, u "()V"), (0, .class_ 8), (0, u "java/lang/Record")] 13

def k3c0 : Code := { maxStack := 1, maxLocals := 1, code := jdk_30_method_1_code, exceptionTable := #[], attributes := #[] }
def k3m0 : Method := { name := "<init>", desc := "()V", sig := { parameters := [], returnType := none }, accessFlags := 4, code := some k3c0 }
/-- java/lang/Record -/
def k3 : Class := { plain "java/lang/Record" (some 0) with
  accessFlags := 1057
  interfaces := #[]
  cf := some (fileOf pool3 7 #[] #[{ accessFlags := 4, nameIndex := 5, descriptorIndex := 6, attributes := #[] }] 1057 2 #[] #[])
  fields := #[]
  methods := #[k3m0]
  instanceTypes := #[]
  staticTypes := #[]
  resolved := Array.replicate 22 none
  statics := none }

def pool4 : Array CpInfo := pool [(1, .methodref 2 3), (0, .class_ 4), (0, .nameAndType 5 6), (0, u "java/lang/Record"), (0, u "<init>"), (0, u "()V"), (0, .fieldref 8 9), (0, .class_ 10), (0, .nameAndType 11 12), (0, u "com/example/ratebook/ratebook/CellRange"), (0, u "firstRow"), (0, u "I"), (0, .fieldref 8 14), (0, .nameAndType 15 12), (0, u "firstColumn"), (0, .fieldref 8 17), (0, .nameAndType 18 12), (0, u "lastRow"), (0, .fieldref 8 20), (0, .nameAndType 21 12), (0, u "lastColumn"), (56, u "(IIII)V"), (38, u "LAST_ROW"), (1, u "LAST_COLUMN"), (10, u "overlaps"), (0, u "(Lcom/example/ratebook/ratebook/CellRange;)Z")] 34

def k4c0 : Code := { maxStack := 2, maxLocals := 5, code := prog_11_method_1_code, exceptionTable := #[], attributes := #[] }
def k4m0 : Method := { name := "<init>", desc := "(IIII)V", sig := { parameters := [.int, .int, .int, .int], returnType := none }, accessFlags := 0, code := some k4c0 }
def k4c1 : Code := { maxStack := 2, maxLocals := 2, code := prog_11_method_7_code, exceptionTable := #[], attributes := #[] }
def k4m1 : Method := { name := "overlaps", desc := "(Lcom/example/ratebook/ratebook/CellRange;)Z", sig := { parameters := [(.object "com/example/ratebook/ratebook/CellRange")], returnType := some .boolean }, accessFlags := 0, code := some k4c1 }
/-- com/example/ratebook/ratebook/CellRange -/
def k4 : Class := { plain "com/example/ratebook/ratebook/CellRange" (some 3) with
  accessFlags := 48
  interfaces := #[]
  cf := some (fileOf pool4 8 #[] #[{ accessFlags := 0, nameIndex := 5, descriptorIndex := 78, attributes := #[] }, { accessFlags := 0, nameIndex := 130, descriptorIndex := 131, attributes := #[] }] 48 2 #[] #[{ accessFlags := 18, nameIndex := 11, descriptorIndex := 12, attributes := #[] }, { accessFlags := 18, nameIndex := 15, descriptorIndex := 12, attributes := #[] }, { accessFlags := 18, nameIndex := 18, descriptorIndex := 12, attributes := #[] }, { accessFlags := 18, nameIndex := 21, descriptorIndex := 12, attributes := #[] }, { accessFlags := 24, nameIndex := 117, descriptorIndex := 12, attributes := #[] }, { accessFlags := 24, nameIndex := 119, descriptorIndex := 12, attributes := #[] }])
  fields := #[{ name := "firstRow", type := .int, accessFlags := 18, slot := 0, constantValue := 0 }, { name := "firstColumn", type := .int, accessFlags := 18, slot := 1, constantValue := 0 }, { name := "lastRow", type := .int, accessFlags := 18, slot := 2, constantValue := 0 }, { name := "lastColumn", type := .int, accessFlags := 18, slot := 3, constantValue := 0 }, { name := "LAST_ROW", type := .int, accessFlags := 24, slot := 0, constantValue := 0 }, { name := "LAST_COLUMN", type := .int, accessFlags := 24, slot := 1, constantValue := 0 }]
  methods := #[k4m0, k4m1]
  instanceTypes := #[.int, .int, .int, .int]
  staticTypes := #[.int, .int]
  resolved := Array.replicate 166 none
  statics := none }

def pool5 : Array CpInfo := pool [(1, u "java/lang/Cloneable"), (0, .class_ 1), (0, u "java/lang/Object"), (0, .class_ 3)] 3

/-- java/lang/Cloneable -/
def k5 : Class := { plain "java/lang/Cloneable" (some 0) with
  accessFlags := 1537
  interfaces := #[]
  cf := some (fileOf pool5 2 #[] #[] 1537 4 #[] #[])
  fields := #[]
  methods := #[]
  instanceTypes := #[]
  staticTypes := #[]
  resolved := Array.replicate 8 none
  statics := none }

def pool6 : Array CpInfo := pool [(1, u "java/io/Serializable"), (0, .class_ 1), (0, u "java/lang/Object"), (0, .class_ 3)] 3

/-- java/io/Serializable -/
def k6 : Class := { plain "java/io/Serializable" (some 0) with
  accessFlags := 1537
  interfaces := #[]
  cf := some (fileOf pool6 2 #[] #[] 1537 4 #[] #[])
  fields := #[]
  methods := #[]
  instanceTypes := #[]
  staticTypes := #[]
  resolved := Array.replicate 8 none
  statics := none }

/-- the primitive byte -/
def k7 : Class := { plain "byte" none with kind := .primitive 'B', accessFlags := 0x411 }
/-- [B -/
def k8 : Class := { plain "[B" (some 0) with kind := .array 7 .byte, interfaces := #[5, 6], accessFlags := 1041 }

/-- the primitive int -/
def k9 : Class := { plain "int" none with kind := .primitive 'I', accessFlags := 0x411 }
/-- [I -/
def k10 : Class := { plain "[I" (some 0) with kind := .array 9 .int, interfaces := #[5, 6], accessFlags := 1041 }

def heap : Heap := #[]
def classes : Array Class := #[k0, k1, k2, k3, k4, k5, k6, k7, k8, k9, k10]
def interned : List (Array UInt16 × Addr) := []
def slotsUsed : Nat := 0
def theMethod : MethodId := ⟨1, 3⟩
def args0 : Array Value := #[.long 1, .long 2, .long 3, .long 4]
def aboutOver (below : List Frame) : State where
  vm := { classes := classes, interned := interned.toArray }
  heap := heap
  slotsUsed := slotsUsed
  threads := #[{ frames := .invoking theMethod args0 :: below }]
def below0 : List Frame := [.native { method := ⟨0, 0⟩, args := #[] }]
def about1 : State := aboutOver below0
def p0 : Program := .bare "" "" ""
def e0 : Env := launch0.env 0 0 0
theorem w_frames : about1.frames = Frame.invoking theMethod args0 :: below0 := rfl
set_option maxRecDepth 65536 in
theorem w_args : argsFit about1.vm theMethod args0 = true := by decide +kernel
set_option maxRecDepth 65536 in
theorem w_heap : heapFits about1 = true := by decide +kernel
set_option maxRecDepth 65536 in
theorem w_runnable : about1.curStatus? = some .runnable := by decide +kernel
set_option maxRecDepth 65536 in
theorem w_alone : about1.alone = true := by decide +kernel
set_option maxRecDepth 65536 in
theorem w_named : about1.methodNamed? x = some theMethod := by decide +kernel
set_option maxRecDepth 65536 in
theorem w_hears : about1.hears theMethod below0 = true := by decide +kernel
set_option maxRecDepth 65536 in
theorem w_ripe : about1.ripe theMethod args0 below0 = true := by decide +kernel
theorem w_running : about1.status = .running := rfl
set_option maxRecDepth 65536 in
theorem w_room : about1.hasRoom e0.platform room_1 = true :=
  launch0.hasRoom_least _ room_1 (by decide +kernel) (by decide +kernel) (by decide +kernel) (by decide +kernel) (by decide +kernel) (by decide +kernel)
theorem allAtoms_all (ts : List Jvm.Cond) (a : Array Jvm.Value) (st : Jvm.State) : (allAtoms ts).before a st = ts.all (fun c => c.before a st) := by
  induction ts with
  | nil => rfl
  | cons c t ih =>
    show (Jvm.Cond.and c (allAtoms t)).before a st = _
    rw [Jvm.Cond.before_and, ih, List.all_cons]
def words1 : List Jvm.Cond := Jvm.Cond.code x code maxLocals ret :: tables_1
/-- a 'code' word, met by the world's own term for the bytes: nothing is compared byte by byte -/
theorem code_word {y : MethodName} {bytes : ByteArray} {mx : Nat} {rt : Option FieldType} {a : Array Value} {s : State} {m : MethodId} {meth : Method} {c : Code} (h1 : s.methodNamed? y = some m) (h2 : s.vm.method? m = some meth) (h3 : meth.code = some c) (h4 : c.code = bytes)
    (h5 : (c.maxLocals == mx && c.exceptionTable.isEmpty && decide (c.maxStack ≤ mostOperands) && decide (meth.sig.returnType = rt) && !meth.locks && decide (parseMethodDescriptor y.desc = some meth.sig)) = true) : (Jvm.Cond.code y bytes mx rt).before a s = true := by
  simp only [Bool.and_eq_true, beq_iff_eq, Bool.not_eq_true', decide_eq_true_eq] at h5
  obtain ⟨⟨⟨⟨⟨g1, g2⟩, g3⟩, g4⟩, g5⟩, g6⟩ := h5
  simp [Cond.before, Cond.holds, Cond.value, h1, h2, h3, h4, g1, g2, g3, g4, g5, g6]
def isCode : Jvm.Cond → Bool
  | .code _ _ _ _ => true
  | _ => false
theorem all_split {L : List Jvm.Cond} {P : Jvm.Cond → Bool} (h1 : L.all (fun c => isCode c || P c) = true) (h2 : ∀ c ∈ L.filter isCode, P c = true) : L.all P = true := by
  refine List.all_eq_true.mpr fun c hc => ?_
  have h := List.all_eq_true.mp h1 c hc
  rcases Bool.eq_false_or_eq_true (isCode c) with hi | hi
  · exact h2 c (List.mem_filter.mpr ⟨hc, hi⟩)
  · simpa [hi] using h
set_option maxRecDepth 65536 in
theorem w_c0 : (Jvm.Cond.code x code maxLocals ret).before args0 about1 = true := code_word (m := ⟨1, 3⟩) (meth := k1m3) (c := k1c3) (by decide +kernel) rfl rfl rfl (by decide +kernel)
set_option maxRecDepth 65536 in
theorem w_c1 : (Jvm.Cond.code ({ cls := "com/example/ratebook/ratebook/CellRangeOverlapsPinLaw", name := "row", desc := "(I)I" } : Jvm.MethodName) method_2_code (1 : Nat) (Option.some Jvm.ClassFile.FieldType.int)).before args0 about1 = true := code_word (m := ⟨1, 1⟩) (meth := k1m1) (c := k1c1) (by decide +kernel) rfl rfl rfl (by decide +kernel)
set_option maxRecDepth 65536 in
theorem w_c2 : (Jvm.Cond.code ({ cls := "com/example/ratebook/ratebook/CellRangeOverlapsPinLaw", name := "col", desc := "(I)I" } : Jvm.MethodName) method_3_code (1 : Nat) (Option.some Jvm.ClassFile.FieldType.int)).before args0 about1 = true := code_word (m := ⟨1, 2⟩) (meth := k1m2) (c := k1c2) (by decide +kernel) rfl rfl rfl (by decide +kernel)
set_option maxRecDepth 65536 in
theorem w_c3 : (Jvm.Cond.code ({ cls := "java/lang/Math", name := "min", desc := "(II)I" } : Jvm.MethodName) jdk_29_method_69_code (2 : Nat) (Option.some Jvm.ClassFile.FieldType.int)).before args0 about1 = true := code_word (m := ⟨2, 2⟩) (meth := k2m2) (c := k2c2) (by decide +kernel) rfl rfl rfl (by decide +kernel)
set_option maxRecDepth 65536 in
theorem w_c4 : (Jvm.Cond.code ({ cls := "java/lang/Math", name := "max", desc := "(II)I" } : Jvm.MethodName) jdk_29_method_65_code (2 : Nat) (Option.some Jvm.ClassFile.FieldType.int)).before args0 about1 = true := code_word (m := ⟨2, 1⟩) (meth := k2m1) (c := k2c1) (by decide +kernel) rfl rfl rfl (by decide +kernel)
set_option maxRecDepth 65536 in
theorem w_c5 : (Jvm.Cond.code ({ cls := "com/example/ratebook/ratebook/CellRange", name := "<init>", desc := "(IIII)V" } : Jvm.MethodName) prog_11_method_1_code (5 : Nat) (Option.none : Option Jvm.ClassFile.FieldType)).before args0 about1 = true := code_word (m := ⟨4, 0⟩) (meth := k4m0) (c := k4c0) (by decide +kernel) rfl rfl rfl (by decide +kernel)
set_option maxRecDepth 65536 in
theorem w_c6 : (Jvm.Cond.code ({ cls := "java/lang/Record", name := "<init>", desc := "()V" } : Jvm.MethodName) jdk_30_method_1_code (1 : Nat) (Option.none : Option Jvm.ClassFile.FieldType)).before args0 about1 = true := code_word (m := ⟨3, 0⟩) (meth := k3m0) (c := k3c0) (by decide +kernel) rfl rfl rfl (by decide +kernel)
set_option maxRecDepth 65536 in
theorem w_c7 : (Jvm.Cond.code ({ cls := "java/lang/Object", name := "<init>", desc := "()V" } : Jvm.MethodName) object_method_1_code (1 : Nat) (Option.none : Option Jvm.ClassFile.FieldType)).before args0 about1 = true := code_word (m := ⟨0, 0⟩) (meth := k0m0) (c := k0c0) (by decide +kernel) rfl rfl rfl (by decide +kernel)
set_option maxRecDepth 65536 in
theorem w_c8 : (Jvm.Cond.code ({ cls := "com/example/ratebook/ratebook/CellRange", name := "overlaps", desc := "(Lcom/example/ratebook/ratebook/CellRange;)Z" } : Jvm.MethodName) prog_11_method_7_code (2 : Nat) (Option.some Jvm.ClassFile.FieldType.boolean)).before args0 about1 = true := code_word (m := ⟨4, 1⟩) (meth := k4m1) (c := k4c1) (by decide +kernel) rfl rfl rfl (by decide +kernel)
def codes1 : List Jvm.Cond := [Jvm.Cond.code x code maxLocals ret, Jvm.Cond.code ({ cls := "com/example/ratebook/ratebook/CellRangeOverlapsPinLaw", name := "row", desc := "(I)I" } : Jvm.MethodName) method_2_code (1 : Nat) (Option.some Jvm.ClassFile.FieldType.int), Jvm.Cond.code ({ cls := "com/example/ratebook/ratebook/CellRangeOverlapsPinLaw", name := "col", desc := "(I)I" } : Jvm.MethodName) method_3_code (1 : Nat) (Option.some Jvm.ClassFile.FieldType.int), Jvm.Cond.code ({ cls := "java/lang/Math", name := "min", desc := "(II)I" } : Jvm.MethodName) jdk_29_method_69_code (2 : Nat) (Option.some Jvm.ClassFile.FieldType.int), Jvm.Cond.code ({ cls := "java/lang/Math", name := "max", desc := "(II)I" } : Jvm.MethodName) jdk_29_method_65_code (2 : Nat) (Option.some Jvm.ClassFile.FieldType.int), Jvm.Cond.code ({ cls := "com/example/ratebook/ratebook/CellRange", name := "<init>", desc := "(IIII)V" } : Jvm.MethodName) prog_11_method_1_code (5 : Nat) (Option.none : Option Jvm.ClassFile.FieldType), Jvm.Cond.code ({ cls := "java/lang/Record", name := "<init>", desc := "()V" } : Jvm.MethodName) jdk_30_method_1_code (1 : Nat) (Option.none : Option Jvm.ClassFile.FieldType), Jvm.Cond.code ({ cls := "java/lang/Object", name := "<init>", desc := "()V" } : Jvm.MethodName) object_method_1_code (1 : Nat) (Option.none : Option Jvm.ClassFile.FieldType), Jvm.Cond.code ({ cls := "com/example/ratebook/ratebook/CellRange", name := "overlaps", desc := "(Lcom/example/ratebook/ratebook/CellRange;)Z" } : Jvm.MethodName) prog_11_method_7_code (2 : Nat) (Option.some Jvm.ClassFile.FieldType.boolean)]
set_option maxRecDepth 65536 in
theorem codes_eq : words1.filter isCode = codes1 := rfl
theorem w_codes : ∀ c ∈ words1.filter isCode, c.before args0 about1 = true := by
  rw [codes_eq]
  intro c hc
  simp only [codes1, List.mem_cons, List.not_mem_nil, or_false] at hc
  rcases hc with rfl | rfl | rfl | rfl | rfl | rfl | rfl | rfl | rfl
  · exact w_c0
  · exact w_c1
  · exact w_c2
  · exact w_c3
  · exact w_c4
  · exact w_c5
  · exact w_c6
  · exact w_c7
  · exact w_c8
set_option maxRecDepth 65536 in
theorem w_t1 : (words1.take 24).all (fun c => isCode c || c.before args0 about1) = true := by decide +kernel
set_option maxRecDepth 65536 in
theorem w_t2 : (words1.drop 24).all (fun c => isCode c || c.before args0 about1) = true := by decide +kernel
theorem w_tables : (allAtoms (Jvm.Cond.code x code maxLocals ret :: tables_1)).before args0 about1 = true := by
  rw [allAtoms_all]
  show words1.all (fun c => c.before args0 about1) = true
  refine all_split ?_ w_codes
  rw [← List.take_append_drop 24 words1, List.all_append, w_t1, w_t2]
  rfl
set_option maxRecDepth 65536 in
theorem w_case : (Jvm.Cond.and given_1 narrow_1).before args0 about1 = true := by decide +kernel
theorem w_applies : (headSpec (Jvm.Cond.code x code maxLocals ret :: tables_1) room_1).applies x e0.platform about1 = true :=
  (Spec.applies_iff w_frames).mpr ⟨w_running, w_runnable, w_alone, w_named, w_hears, w_ripe, w_room, w_tables⟩
theorem atStart : AtStart classFile x code maxLocals ret World_1 tables_1 room_1 Calls_1 rest_1 Pre_1 launch0 p0 e0 about1 theMethod args0 below0 :=
  ⟨lists_1, trivial, launch0.admits_env _ _ _, launch0.least_env, fairChoices_fair.cas, fairChoices_fair.clock, w_frames, w_args, w_heap, w_applies, trivial, trivial, w_case⟩
end start1
theorem witness_1 : WitnessClaimed_1 := ⟨start1.p0, start1.e0, start1.about1, start1.theMethod, start1.args0, start1.below0, start1.atStart⟩
end Jvm.Pilot.@@N@@
