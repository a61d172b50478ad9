import JvmDerived
import JvmDerived.Pilot.@@N@@Statement
import JvmDerived.Pilot.@@N@@Code
set_option linter.unusedVariables false
set_option linter.unusedSimpArgs false
namespace Jvm.Pilot.@@N@@
open Jvm Jvm.ClassFile Sem Op Lib Jvm.Free Jvm.Stand Jvm.LawKit Jvm.RoadKit Bundle Jvm.Pilot.@@N@@.Jvm.D
def own_Go (tb : Tables) (e : Env) (below : List Frame) (P : State → Outcome → Prop) (T : State) (g : JFrame) : Prop := ∃ t o, Steps tb e below (T.setTop g) t ∧ P t o
theorem own_go {tb : Tables} {e : Env} {below : List Frame} {P : State → Outcome → Prop} {T T' : State} {g g' : JFrame} (k : ∀ target, Steps tb e below (T'.setTop g') target → Steps tb e below (T.setTop g) target) (h : own_Go tb e below P T' g') : own_Go tb e below P T g := by
  obtain ⟨t, o, a, b⟩ := h
  exact ⟨t, o, k t a, b⟩
theorem own_cast {P Q : Prop} (h : P = Q) (p : P) : Q := h ▸ p
def own_upd (f : Nat → Value) (k : Nat) (v : Value) : Nat → Value := fun i => if i = k then v else f i
/-- an array of length z at a, its element i being f i -/
def own_AV (Z : State) (h : Heap) (a : Addr) (ty : FieldType) (z : Int32) (f : Nat → Value) : Prop := ¬ z < 0 ∧ ∃ c : Cell, Arr Z h a c ty ∧ c.slots.size = z.toNatClampNeg ∧ ∀ i, i < c.slots.size → c.slots[i]? = some (f i)
section
variable {Z : State} {h h' : Heap} {a b : Addr} {ty : FieldType} {z j : Int32} {f : Nat → Value} {v w : Value} {sl k : Nat} {ws : List Addr} {cA : ClassId}
theorem own_AV.lt (F : own_AV Z h a ty z f) : a < h.size := by obtain ⟨_, c, A, -⟩ := F; exact A.lt
theorem own_AV.ext (F : own_AV Z h a ty z f) (E : Ext h h') : own_AV Z h' a ty z f := by obtain ⟨q, c, A, r⟩ := F; exact ⟨q, c, A.ext E, r⟩
theorem own_AV.other (F : own_AV Z h b ty z f) (W : Wr h h' a sl v) (q : b ≠ a) : own_AV Z h' b ty z f := by obtain ⟨q1, c, A, r⟩ := F; exact ⟨q1, c, A.other W q, r⟩
theorem own_AV.keep (F : own_AV Z h a ty z f) (K : Keep h h' ws) (q : a ∉ ws) : own_AV Z h' a ty z f := by obtain ⟨q1, c, A, r⟩ := F; exact ⟨q1, c, ⟨K.2.1 a c A.1 q, A.2⟩, r⟩
theorem own_AV.new (A : Arr Z h a (newA cA ty z) ty) (q : ¬ z < 0) : own_AV Z h a ty z (fun _ => defaultValue ty) :=
  ⟨q, _, A, sz_new _ _ _, fun i hi => by
    rw [sz_new] at hi
    simp [newA, hi]⟩
theorem own_AV.set (F : own_AV Z h a ty z f) (W : Wr h h' a j.toNatClampNeg v) (hk : j.toNatClampNeg = k) : own_AV Z h' a ty z (own_upd f k v) := by
  obtain ⟨q, c, A, s, t⟩ := F
  subst hk
  refine ⟨q, _, A.same W, by rw [sz_set]; exact s, fun i hi => ?_⟩
  rw [sz_set] at hi
  by_cases e : i = j.toNatClampNeg
  · subst e; simp [own_upd, Cell.setSlot, hi]
  · simp only [own_upd, if_neg e, Cell.setSlot]
    rw [Array.getElem?_setIfInBounds_ne (Ne.symm e)]; exact t i hi
theorem own_at {c : Cell} (t : ∀ i, i < c.slots.size → c.slots[i]? = some (f i)) (s : c.slots.size = z.toNatClampNeg) (hin : ¬ (j < 0 ∨ c.slots.size ≤ j.toNatClampNeg)) (hk : j.toNatClampNeg = k) (hv : f k = v) : c.slots[j.toNatClampNeg]? = some v := by
  rw [t _ (Nat.lt_of_not_le fun q => hin (Or.inr q)), hk, hv]
theorem own_sta_keep {C n d : String} (F : Sta Z h C n d w) (K : Keep h h' ws) (q : ∀ x ∈ ws, ∀ c : Cell, h[x]? = some c → c.vm.isStatics = false) : Sta Z h' C n d w := by
  obtain ⟨cf, i, k, f, st, cell, h1, h2, h3, h4, h5, h6, h7⟩ := F
  exact ⟨cf, i, k, f, st, cell, h1, h2, h3, h4, K.2.1 st cell h5 (fun m => by rw [q st m cell h5] at h6; cases h6), h6, h7⟩
theorem own_exa_plain {C : String} (F : Exa Z h a C) : ∀ c : Cell, h[a]? = some c → c.vm.isStatics = false := fun c hc => by
  obtain ⟨c1, k, h1, -, -, h4, -⟩ := F; cases h1.symm.trans hc; exact h4
theorem own_AV.plain (F : own_AV Z h a ty z f) : ∀ c : Cell, h[a]? = some c → c.vm.isStatics = false := fun c hc => by
  obtain ⟨_, c1, A, -⟩ := F; cases A.1.symm.trans hc; exact A.plain
end
theorem own_narb {x : Int32} (h : x = 0 ∨ x = 1) : nar .boolean x = x := by rcases h with rfl | rfl <;> rfl
theorem own_exa_ref {args : Array Value} {s : State} {t : Term} {C : String} (hx : (Jvm.Cond.exactly t C).value args s none s [] = some true) : ∃ a, t.eval args s none [] s = some (.ref a) ∧ Exa s s.heap a C := by
  obtain ⟨a', c', cell, k, e1, -⟩ := Cond.exactly_spec (Cond.before_iff.mpr hx)
  exact ⟨a', e1, Exa.start e1 hx⟩
theorem own_eq_int {args : Array Value} {s : State} {t : Term} {k : Int32} (h : (Jvm.Cond.eq t (Jvm.Term.int k)).value args s none s [] = some true) : t.eval args s none [] s = some (.int k) := by
  cases hv : t.eval args s none [] s with
  | none => simp [Cond.value, hv] at h
  | some v => cases v <;> simp [Cond.value, hv, Term.eval] at h <;> simp [h]
theorem own_fld_int {args : Array Value} {s : State} {t : Term} {C n d : String} {a : Addr} {k : Int32} (ev : t.eval args s none [] s = some (.ref a)) (h : (Jvm.Cond.eq (Jvm.Term.field t C n d) (Jvm.Term.int k)).value args s none s [] = some true) : Fld s s.heap a C n d (.int k) :=
  Fld.start ((fld_at ev).symm.trans (own_eq_int h))
theorem own_nar_c (x : Int32) : nar .char (x.toUInt32.toUInt16.toUInt32.toInt32) = x.toUInt32.toUInt16.toUInt32.toInt32 := Value.int.inj (Jvm.Free.XT.narrow_c x)
theorem own_nar_b (x : Int32) : nar .byte (x.toInt8.toInt32) = x.toInt8.toInt32 := Value.int.inj (Jvm.Free.XT.narrow_b x)
theorem own_NSroot {Z : State} {a0 : Array Value} {O K : String} {n : Nat} (w : (Jvm.Cond.noSuperclass O).before a0 Z = true) (wk : (Jvm.Cond.instantiable K n).before a0 Z = true) (hn : O ≠ K) : NS Z O K := by
  obtain ⟨c, k, h1, h2, h3, -, -⟩ := Cond.noSuperclass_spec w
  obtain ⟨t, kt, g1, -⟩ := Cond.instantiable_spec wk
  have ne := ids_ne h1 g1 hn
  refine ⟨c, t, h1, g1, fun fuel => ?_⟩
  cases fuel with
  | zero => rfl
  | succ f => simp [Vm.isSubclassAux, ne, h2, h3]
theorem own_NSno {Z : State} {a0 : Array Value} {C S K : String} {m : Nat} (w : (Jvm.Cond.superclass C S).before a0 Z = true) (wk : (Jvm.Cond.instantiable K m).before a0 Z = true) (n : NS Z C K) (hn : C ≠ K) : ∃ c t, Z.vm.findClass C = some c ∧ Z.vm.findClass K = some t ∧ Z.vm.assignable c t = false := by
  obtain ⟨c, t, h0, g0, n3⟩ := n
  obtain ⟨p, k, kp, h1, h2, h3, h4, h5, -, h7⟩ := Cond.superclass_spec h0 w
  obtain ⟨t', k', g1, g2, g5, g7, -⟩ := Cond.instantiable_spec wk
  cases g0.symm.trans g1
  have g8 : k'.isInterface = false := by
    cases hi : k'.isInterface <;> simp [hi] at g7 ⊢
  have ne := ids_ne h0 g0 hn
  refine ⟨c, t, h0, g0, ?_⟩
  show Z.vm.assignableAux (255 + 1) c t = false
  simp [Vm.assignableAux, ne, h2, g2, h5, g5, g8, Vm.isSubclass, n3]
theorem own_monoW {s t : State} {o : Outcome} {L : List Loc} {k n k' n' : Nat} (h : ReturnedEndW s o t L k n) (hk : k ≤ k') (hn : n ≤ n') : ReturnedEndW s o t L k' n' := ⟨h.1, h.2.1, h.2.2.1, h.2.2.2.mono hk hn⟩
theorem own_ldcSL {p : Program} {l : Launch} {e : Env} {R : Room} {s : State} {vm0 : Vm} {m : MethodId} {args : Array Value} {below : List Frame} {meth : Method} {c : Code} {T : State} {locs : List Loc} {cells slots : Nat} {Z : State} {a0 : Array Value} {h : Heap}
    (X : Stand p l e R (s.setVm vm0) m args below meth c T locs cells slots) (hx : p.tables.exec = Jvm.exec) (hZ : Z.Warmed39 vm0) {own text : String} {index : Nat} (hown : vm0.findClass own = some m.cls) (w : (Jvm.Cond.stringLink own index text).before a0 Z = true) (wS : ∀ a ∈ Bundle.stringAtoms, a.before a0 Z = true)
    (eT : T.heap = h) {k0 : Nat} (hS : s.Since vm0 k0) (hk : k0 ≤ h.size) {g : JFrame} (hg : g.method = m) (hd : decode c.code g.pc = .ok (.ldc index, 2)) {n : Nat} (hn : 4 * text.toList.length ≤ n) (hbig : n ≤ 536870912) (hc : cells + 2 ≤ R.cells) (hl : slots + (n + 4) ≤ R.slots) :
    ∃ (a : Addr) (T' : State) (h' : Heap) (k1 : Nat), Stand p l e R (s.setVm T'.vm) m args below meth c T' locs (cells + 2) (slots + (n + 4)) ∧ T'.heap = h' ∧ Ext h h' ∧ s.Since T'.vm k1 ∧ k1 ≤ h'.size ∧ Z.Warmed39 (s.setVm T'.vm).vm ∧ (s.setVm T'.vm).vm.findClass own = some m.cls ∧ Lit (s.setVm T'.vm) own index a ∧ (s.setVm vm0).Warmed39 T'.vm ∧
      ∀ target, Steps p.tables e below (T'.setTop { g with pc := g.pc + 2, stack := .ref a :: g.stack }) target → Steps p.tables e below (T.setTop g) target := by
  have wS' : ∀ d ∈ Bundle.stringAtoms, d.before args (s.setVm vm0) = true := fun d hd => by
    have q := wS d hd
    simp only [Bundle.stringAtoms, List.mem_cons, List.not_mem_nil, or_false] at hd
    rcases hd with rfl | rfl | rfl | rfl | rfl | rfl | rfl
    · exact mv (s := s.setVm vm0) hZ q
    · exact mv (s := s.setVm vm0) hZ q
    · exact mvA (s := s.setVm vm0) hZ q
    · exact mv (s := s.setVm vm0) hZ q
    · exact mv (s := s.setVm vm0) hZ q
    · exact mv (s := s.setVm vm0) hZ q
    · exact mv (s := s.setVm vm0) hZ q
  obtain ⟨a, T', X', hS', ⟨kk, hkk, hrr⟩, hb, -, st⟩ := X.ldcStringCold hx (own := own) hown (mvS hZ w) wS' hg hd hn hbig hc hl
  subst eT
  have hf : T'.vm.findClass own = some m.cls := by rw [hS'.1.alike.findClass]; exact hown
  exact ⟨a, T', _, _, X', rfl, ext_of hb, hS.trans hS' (Nat.le_trans hk (ext_of hb).1), Nat.le_refl _, State.Warmed39.trans (t := s.setVm vm0) hZ hS'.1, hf, by simp [Lit, State.resolvedAt?, hf, hkk, hrr], hS'.1, st⟩
theorem own_selfsel {Z s : State} {a0 args : Array Value} {y : MethodName} {n : Nat} (hZ : Z.Warmed39 s.vm) (wi : (Jvm.Cond.instantiable y.cls n).before a0 Z = true) (wm : (Jvm.Cond.instanceMethod y).before a0 Z = true) (wp : (Jvm.Cond.privateMethod y).before a0 Z = true) (hy : y.cls ≠ "java/lang/invoke/MethodHandle" ∧ y.cls ≠ "java/lang/invoke/VarHandle") : (Jvm.Cond.selects y.cls y y).before args s = true := by
  obtain ⟨c, k, h1, h2, -, h4, -⟩ := Cond.instantiable_spec (mvT (args := args) hZ wi)
  have g8 : k.isInterface = false := by
    cases hi : k.isInterface <;> simp [hi] at h4 ⊢
  exact selects_self_of_private h1 h2 g8 (Cond.privateMethod_at (mvP hZ wp (args := #[]))) (mvT hZ wm) hy

theorem own_pn0 : plainName "java/lang/Record" = true := by first | (simp [plainName, overriddenIn]; done) | decide +kernel
theorem own_pn1 : plainName "com/example/ratebook/ratebook/CellRange" = true := by first | (simp [plainName, overriddenIn]; done) | decide +kernel
theorem own_pn2 : plainName "com/example/ratebook/ratebook/CellRangeHoldsPinLaw" = true := by first | (simp [plainName, overriddenIn]; done) | decide +kernel
theorem own_pd0 : parseMethodDescriptor "()V" = some ⟨[], none⟩ := by decide +kernel
theorem own_pd1 : parseMethodDescriptor "(II)I" = some ⟨[.int, .int], some .int⟩ := by decide +kernel
theorem own_pd2 : parseMethodDescriptor "(IIII)V" = some ⟨[.int, .int, .int, .int], none⟩ := by decide +kernel
theorem own_pd3 : parseMethodDescriptor "(II)Z" = some ⟨[.int, .int], some .boolean⟩ := by decide +kernel
theorem own_d1_0 : decode jdk_29_method_69_code 0 = .ok (.iload_n 0, 1) := by decide +kernel
theorem own_d1_1 : decode jdk_29_method_69_code 1 = .ok (.iload_n 1, 1) := by decide +kernel
theorem own_d1_2 : decode jdk_29_method_69_code 2 = .ok (.if_icmp .gt 7, 3) := by decide +kernel
theorem own_d1_5 : decode jdk_29_method_69_code 5 = .ok (.iload_n 0, 1) := by decide +kernel
theorem own_d1_6 : decode jdk_29_method_69_code 6 = .ok (.goto 4, 3) := by decide +kernel
theorem own_d1_9 : decode jdk_29_method_69_code 9 = .ok (.iload_n 1, 1) := by decide +kernel
theorem own_d1_10 : decode jdk_29_method_69_code 10 = .ok (.ireturn, 1) := by decide +kernel
theorem own_ef_own_rm1 (m : MethodId) (x0 : Int32) (x1 : Int32) : entryFrame m #[(.int x0), (.int x1)] 2 = mkF m 0 #[.val (.int x0), .val (.int x1)] [] := by first | (simp [entryFrame, mkF, argsToLocals, Value.category]; done) | rfl
def own_rm1_ret (p_1 : Int32) (p_2 : Int32) : Int32 := if p_2 < p_1 then p_2 else p_1
def own_Q1 (Z : State) (p_1 : Int32) (p_2 : Int32) (h0 : Heap) (n0 : Nat) (v : Option Value) (h : Heap) (L : List Loc) : Prop := ∃ (r_ : Int32), v = some (.int r_) ∧ Fr n0 L ∧ r_ = (own_rm1_ret p_1 p_2) ∧ h = h0
set_option maxRecDepth 65536 in
set_option maxHeartbeats 40000000 in
theorem own_rm1 (l : Launch) (Z : State) (a0 : Array Value) (hw : ∀ d ∈ tables_1, d.before a0 Z = true) (ws : List Jvm.Cond) (p_1 : Int32) (p_2 : Int32) (h0 : Heap) (n0 : Nat) (Z0 : n0 ≤ h0.size) :
    MetFree l (⟨"java/lang/Math", "min", "(II)I"⟩ : MethodName) (head1 (Jvm.Cond.code (⟨"java/lang/Math", "min", "(II)I"⟩ : MethodName) jdk_29_method_69_code 2 (some .int) :: ws) ({ frames := 0, cells := 0, slots := 0, locals := 0 } : Room)) (fun a U => a = #[(.int p_1), (.int p_2)] ∧ Z.Warmed39 U.vm ∧ U.heap = h0) (fun _ _ _ _ _ => True) (fun _ U o U' => ∃ v L, o = .returned v ∧ own_Q1 Z p_1 p_2 h0 n0 v U'.heap L ∧ FrameEnd U o U' L ({ frames := 0, cells := 0, slots := 0, locals := 0 } : Room).cells ({ frames := 0, cells := 0, slots := 0, locals := 0 } : Room).slots) := by
  refine MetFree.of_bodySF (Jvm.Free.JP.mathPlain rfl (by decide +kernel)) hisR ?_
  intro p e s m args below meth c s₁ Bd hml0 hP hK
  obtain ⟨rfl, hZ, hh⟩ := hP
  have hx := Bd.exec
  have hby := Bd.bytes
  have hml : c.maxLocals = 2 := hml0
  have hown : s.vm.findClass "java/lang/Math" = some m.cls := findClass_of_methodNamed Bd.named
  have hnm := (name_of_methodNamed Bd.named Bd.method).1
  have X0 : Stand p l e ({ frames := 0, cells := 0, slots := 0, locals := 0 } : Room) s m #[(.int p_1), (.int p_2)] below meth c s₁ [] 0 0 := Stand.of_body Bd
  have e0 : s₁.heap = h0 := by rw [← hh, Bd.state]; rfl
  have N0 := Fr.nil n0
  have z0 : n0 ≤ h0.size := Z0
  show own_Go p.tables e below (fun t o => t.status = .running ∧ Ended t below o ∧ ∃ v L, o = .returned v ∧ own_Q1 Z p_1 p_2 h0 n0 v t.heap L ∧ FrameEnd s o t L ({ frames := 0, cells := 0, slots := 0, locals := 0 } : Room).cells ({ frames := 0, cells := 0, slots := 0, locals := 0 } : Room).slots) s₁ (entryFrame m #[(.int p_1), (.int p_2)] 2)
  rw [own_ef_own_rm1 m p_1 p_2]
  show own_Go _ _ _ _ s₁ (mkF m 0 #[.val (.int p_1), .val (.int p_2)] [])
  refine own_go (fun _ k => XS.iloadN X0.here hx rfl (hb hby own_d1_0) rfl k) ?_
  show own_Go _ _ _ _ s₁ (mkF m 1 #[.val (.int p_1), .val (.int p_2)] [(.int p_1)])
  refine own_go (fun _ k => XS.iloadN X0.here hx rfl (hb hby own_d1_1) rfl k) ?_
  show own_Go _ _ _ _ s₁ (mkF m 2 #[.val (.int p_1), .val (.int p_2)] [(.int p_2), (.int p_1)])
  by_cases hc1 : p_2 < p_1
  · refine own_go (fun _ k => XS.icmpYes X0.here hx rfl (pc0 := 2) (pc' := 9) rfl (hb hby own_d1_2) rfl (Jvm.Free.XT.ii_gt_t hc1) (by decide) (by decide) k) ?_
    show own_Go _ _ _ _ s₁ (mkF m 9 #[.val (.int p_1), .val (.int p_2)] [])
    refine own_go (fun _ k => XS.iloadN X0.here hx rfl (hb hby own_d1_9) rfl k) ?_
    show own_Go _ _ _ _ s₁ (mkF m 10 #[.val (.int p_1), .val (.int p_2)] [(.int p_2)])
    obtain ⟨fs, hr, hrun, hended, hW, hsame⟩ := X0.leave (v := some (.int p_2)) (fun h => by rw [Bd.returns] at h; cases h)
    refine ⟨_, _, retOut X0 hx Bd.returns rfl (Or.inl ⟨rfl, Or.inl rfl, _, rfl⟩) (hb hby own_d1_10) hr, hrun, hended, _, _, rfl, ?_, ⟨_, rfl⟩, hW, hsame.mono (by decide) (by decide)⟩
    show own_Q1 Z p_1 p_2 h0 n0 _ s₁.heap _
    rw [e0]
    exact ⟨_, rfl, N0, (by subst_vars; first | rfl | simp only [own_rm1_ret, if_pos hc1]), rfl⟩
  · refine own_go (fun _ k => XS.icmpNo X0.here hx rfl (hb hby own_d1_2) rfl (Jvm.Free.XT.ii_gt_f hc1) k) ?_
    show own_Go _ _ _ _ s₁ (mkF m 5 #[.val (.int p_1), .val (.int p_2)] [])
    refine own_go (fun _ k => XS.iloadN X0.here hx rfl (hb hby own_d1_5) rfl k) ?_
    show own_Go _ _ _ _ s₁ (mkF m 6 #[.val (.int p_1), .val (.int p_2)] [(.int p_1)])
    refine own_go (fun _ k => XS.goto X0.here hx rfl (pc0 := 6) (pc' := 10) rfl (hb hby own_d1_6) (by decide) (by decide) k) ?_
    show own_Go _ _ _ _ s₁ (mkF m 10 #[.val (.int p_1), .val (.int p_2)] [(.int p_1)])
    obtain ⟨fs, hr, hrun, hended, hW, hsame⟩ := X0.leave (v := some (.int p_1)) (fun h => by rw [Bd.returns] at h; cases h)
    refine ⟨_, _, retOut X0 hx Bd.returns rfl (Or.inl ⟨rfl, Or.inl rfl, _, rfl⟩) (hb hby own_d1_10) hr, hrun, hended, _, _, rfl, ?_, ⟨_, rfl⟩, hW, hsame.mono (by decide) (by decide)⟩
    show own_Q1 Z p_1 p_2 h0 n0 _ s₁.heap _
    rw [e0]
    exact ⟨_, rfl, N0, (by subst_vars; first | rfl | simp only [own_rm1_ret, if_neg hc1]), rfl⟩
theorem own_d2_0 : decode jdk_29_method_65_code 0 = .ok (.iload_n 0, 1) := by decide +kernel
theorem own_d2_1 : decode jdk_29_method_65_code 1 = .ok (.iload_n 1, 1) := by decide +kernel
theorem own_d2_2 : decode jdk_29_method_65_code 2 = .ok (.if_icmp .lt 7, 3) := by decide +kernel
theorem own_d2_5 : decode jdk_29_method_65_code 5 = .ok (.iload_n 0, 1) := by decide +kernel
theorem own_d2_6 : decode jdk_29_method_65_code 6 = .ok (.goto 4, 3) := by decide +kernel
theorem own_d2_9 : decode jdk_29_method_65_code 9 = .ok (.iload_n 1, 1) := by decide +kernel
theorem own_d2_10 : decode jdk_29_method_65_code 10 = .ok (.ireturn, 1) := by decide +kernel
theorem own_ef_own_rm2 (m : MethodId) (x0 : Int32) (x1 : Int32) : entryFrame m #[(.int x0), (.int x1)] 2 = mkF m 0 #[.val (.int x0), .val (.int x1)] [] := by first | (simp [entryFrame, mkF, argsToLocals, Value.category]; done) | rfl
def own_rm2_ret (p_1 : Int32) (p_2 : Int32) : Int32 := if p_1 < p_2 then p_2 else p_1
def own_Q2 (Z : State) (p_1 : Int32) (p_2 : Int32) (h0 : Heap) (n0 : Nat) (v : Option Value) (h : Heap) (L : List Loc) : Prop := ∃ (r_ : Int32), v = some (.int r_) ∧ Fr n0 L ∧ r_ = (own_rm2_ret p_1 p_2) ∧ h = h0
set_option maxRecDepth 65536 in
set_option maxHeartbeats 40000000 in
theorem own_rm2 (l : Launch) (Z : State) (a0 : Array Value) (hw : ∀ d ∈ tables_1, d.before a0 Z = true) (ws : List Jvm.Cond) (p_1 : Int32) (p_2 : Int32) (h0 : Heap) (n0 : Nat) (Z0 : n0 ≤ h0.size) :
    MetFree l (⟨"java/lang/Math", "max", "(II)I"⟩ : MethodName) (head1 (Jvm.Cond.code (⟨"java/lang/Math", "max", "(II)I"⟩ : MethodName) jdk_29_method_65_code 2 (some .int) :: ws) ({ frames := 0, cells := 0, slots := 0, locals := 0 } : Room)) (fun a U => a = #[(.int p_1), (.int p_2)] ∧ Z.Warmed39 U.vm ∧ U.heap = h0) (fun _ _ _ _ _ => True) (fun _ U o U' => ∃ v L, o = .returned v ∧ own_Q2 Z p_1 p_2 h0 n0 v U'.heap L ∧ FrameEnd U o U' L ({ frames := 0, cells := 0, slots := 0, locals := 0 } : Room).cells ({ frames := 0, cells := 0, slots := 0, locals := 0 } : Room).slots) := by
  refine MetFree.of_bodySF (Jvm.Free.JP.mathPlain rfl (by decide +kernel)) hisR ?_
  intro p e s m args below meth c s₁ Bd hml0 hP hK
  obtain ⟨rfl, hZ, hh⟩ := hP
  have hx := Bd.exec
  have hby := Bd.bytes
  have hml : c.maxLocals = 2 := hml0
  have hown : s.vm.findClass "java/lang/Math" = some m.cls := findClass_of_methodNamed Bd.named
  have hnm := (name_of_methodNamed Bd.named Bd.method).1
  have X0 : Stand p l e ({ frames := 0, cells := 0, slots := 0, locals := 0 } : Room) s m #[(.int p_1), (.int p_2)] below meth c s₁ [] 0 0 := Stand.of_body Bd
  have e0 : s₁.heap = h0 := by rw [← hh, Bd.state]; rfl
  have N0 := Fr.nil n0
  have z0 : n0 ≤ h0.size := Z0
  show own_Go p.tables e below (fun t o => t.status = .running ∧ Ended t below o ∧ ∃ v L, o = .returned v ∧ own_Q2 Z p_1 p_2 h0 n0 v t.heap L ∧ FrameEnd s o t L ({ frames := 0, cells := 0, slots := 0, locals := 0 } : Room).cells ({ frames := 0, cells := 0, slots := 0, locals := 0 } : Room).slots) s₁ (entryFrame m #[(.int p_1), (.int p_2)] 2)
  rw [own_ef_own_rm2 m p_1 p_2]
  show own_Go _ _ _ _ s₁ (mkF m 0 #[.val (.int p_1), .val (.int p_2)] [])
  refine own_go (fun _ k => XS.iloadN X0.here hx rfl (hb hby own_d2_0) rfl k) ?_
  show own_Go _ _ _ _ s₁ (mkF m 1 #[.val (.int p_1), .val (.int p_2)] [(.int p_1)])
  refine own_go (fun _ k => XS.iloadN X0.here hx rfl (hb hby own_d2_1) rfl k) ?_
  show own_Go _ _ _ _ s₁ (mkF m 2 #[.val (.int p_1), .val (.int p_2)] [(.int p_2), (.int p_1)])
  by_cases hc1 : p_1 < p_2
  · refine own_go (fun _ k => XS.icmpYes X0.here hx rfl (pc0 := 2) (pc' := 9) rfl (hb hby own_d2_2) rfl (Jvm.Free.XT.ii_lt_t hc1) (by decide) (by decide) k) ?_
    show own_Go _ _ _ _ s₁ (mkF m 9 #[.val (.int p_1), .val (.int p_2)] [])
    refine own_go (fun _ k => XS.iloadN X0.here hx rfl (hb hby own_d2_9) rfl k) ?_
    show own_Go _ _ _ _ s₁ (mkF m 10 #[.val (.int p_1), .val (.int p_2)] [(.int p_2)])
    obtain ⟨fs, hr, hrun, hended, hW, hsame⟩ := X0.leave (v := some (.int p_2)) (fun h => by rw [Bd.returns] at h; cases h)
    refine ⟨_, _, retOut X0 hx Bd.returns rfl (Or.inl ⟨rfl, Or.inl rfl, _, rfl⟩) (hb hby own_d2_10) hr, hrun, hended, _, _, rfl, ?_, ⟨_, rfl⟩, hW, hsame.mono (by decide) (by decide)⟩
    show own_Q2 Z p_1 p_2 h0 n0 _ s₁.heap _
    rw [e0]
    exact ⟨_, rfl, N0, (by subst_vars; first | rfl | simp only [own_rm2_ret, if_pos hc1]), rfl⟩
  · refine own_go (fun _ k => XS.icmpNo X0.here hx rfl (hb hby own_d2_2) rfl (Jvm.Free.XT.ii_lt_f hc1) k) ?_
    show own_Go _ _ _ _ s₁ (mkF m 5 #[.val (.int p_1), .val (.int p_2)] [])
    refine own_go (fun _ k => XS.iloadN X0.here hx rfl (hb hby own_d2_5) rfl k) ?_
    show own_Go _ _ _ _ s₁ (mkF m 6 #[.val (.int p_1), .val (.int p_2)] [(.int p_1)])
    refine own_go (fun _ k => XS.goto X0.here hx rfl (pc0 := 6) (pc' := 10) rfl (hb hby own_d2_6) (by decide) (by decide) k) ?_
    show own_Go _ _ _ _ s₁ (mkF m 10 #[.val (.int p_1), .val (.int p_2)] [(.int p_1)])
    obtain ⟨fs, hr, hrun, hended, hW, hsame⟩ := X0.leave (v := some (.int p_1)) (fun h => by rw [Bd.returns] at h; cases h)
    refine ⟨_, _, retOut X0 hx Bd.returns rfl (Or.inl ⟨rfl, Or.inl rfl, _, rfl⟩) (hb hby own_d2_10) hr, hrun, hended, _, _, rfl, ?_, ⟨_, rfl⟩, hW, hsame.mono (by decide) (by decide)⟩
    show own_Q2 Z p_1 p_2 h0 n0 _ s₁.heap _
    rw [e0]
    exact ⟨_, rfl, N0, (by subst_vars; first | rfl | simp only [own_rm2_ret, if_neg hc1]), rfl⟩
theorem own_d4_0 : decode jdk_30_method_1_code 0 = .ok (.aload_n 0, 1) := by decide +kernel
theorem own_d4_1 : decode jdk_30_method_1_code 1 = .ok (.invokespecial 1, 3) := by decide +kernel
theorem own_d4_4 : decode jdk_30_method_1_code 4 = .ok (.return_, 1) := by decide +kernel
theorem own_ef_own_rm4 (m : MethodId) (x0 : Addr) : entryFrame m #[(.ref x0)] 1 = mkF m 0 #[.val (.ref x0)] [] := by first | (simp [entryFrame, mkF, argsToLocals, Value.category]; done) | rfl
def own_Q4 (Z : State) (a_1 : Addr) (h0 : Heap) (n0 : Nat) (v : Option Value) (h : Heap) (L : List Loc) : Prop := v = none ∧ Fr n0 L ∧ h = h0
set_option maxRecDepth 65536 in
set_option maxHeartbeats 40000000 in
theorem own_rm4 (l : Launch) (Z : State) (a0 : Array Value) (hw : ∀ d ∈ tables_1, d.before a0 Z = true) (ws : List Jvm.Cond) (a_1 : Addr) (h0 : Heap) (n0 : Nat) (Z0 : n0 ≤ h0.size) :
    MetFree l (⟨"java/lang/Record", "<init>", "()V"⟩ : MethodName) (head1 (Jvm.Cond.code (⟨"java/lang/Record", "<init>", "()V"⟩ : MethodName) jdk_30_method_1_code 1 none :: ws) ({ frames := 1, cells := 0, slots := 0, locals := 12 } : Room)) (fun a U => a = #[(.ref a_1)] ∧ Z.Warmed39 U.vm ∧ U.heap = h0) (fun _ _ _ _ _ => True) (fun _ U o U' => ∃ v L, o = .returned v ∧ own_Q4 Z a_1 h0 n0 v U'.heap L ∧ FrameEnd U o U' L ({ frames := 1, cells := 0, slots := 0, locals := 12 } : Room).cells ({ frames := 1, cells := 0, slots := 0, locals := 12 } : Room).slots) := by
  refine MetFree.of_bodySF (plainFor_of_name own_pn0) hisR ?_
  intro p e s m args below meth c s₁ Bd hml0 hP hK
  obtain ⟨rfl, hZ, hh⟩ := hP
  have hx := Bd.exec
  have hby := Bd.bytes
  have hml : c.maxLocals = 1 := hml0
  have hown : s.vm.findClass "java/lang/Record" = some m.cls := findClass_of_methodNamed Bd.named
  have hnm := (name_of_methodNamed Bd.named Bd.method).1
  have X0 : Stand p l e ({ frames := 1, cells := 0, slots := 0, locals := 12 } : Room) s m #[(.ref a_1)] below meth c s₁ [] 0 0 := Stand.of_body Bd
  have e0 : s₁.heap = h0 := by rw [← hh, Bd.state]; rfl
  have N0 := Fr.nil n0
  have z0 : n0 ≤ h0.size := Z0
  show own_Go p.tables e below (fun t o => t.status = .running ∧ Ended t below o ∧ ∃ v L, o = .returned v ∧ own_Q4 Z a_1 h0 n0 v t.heap L ∧ FrameEnd s o t L ({ frames := 1, cells := 0, slots := 0, locals := 12 } : Room).cells ({ frames := 1, cells := 0, slots := 0, locals := 12 } : Room).slots) s₁ (entryFrame m #[(.ref a_1)] 1)
  rw [own_ef_own_rm4 m a_1]
  show own_Go _ _ _ _ s₁ (mkF m 0 #[.val (.ref a_1)] [])
  refine own_go (fun _ k => XS.aloadN X0.here hx rfl (hb hby own_d4_0) rfl rfl k) ?_
  show own_Go _ _ _ _ s₁ (mkF m 1 #[.val (.ref a_1)] [(.ref a_1)])
  obtain ⟨T1, X1, e1, st1⟩ := initO X0 hx hZ hown (hw _ (List.mem_of_getElem? (i := 18) rfl)) (hw _ (List.mem_of_getElem? (i := 19) rfl)) (hw _ (List.mem_of_getElem? (i := 20) rfl)) e0 (g := (mkF m 1 #[.val (.ref a_1)] [(.ref a_1)])) rfl (by rw [hml]; rfl) rfl (hb hby own_d4_1) (by decide) (W := 0) (by show 2 * 0 + _ ≤ _; exact Nat.le_of_eq rfl) (by decide)
  refine own_go (fun _ k => st1 _ k) ?_
  show own_Go _ _ _ _ T1 (mkF m 4 #[.val (.ref a_1)] [])
  obtain ⟨fs, hr, hrun, hended, hW, hsame⟩ := X1.leave (v := none) (fun _ => rfl)
  refine ⟨_, _, X1.returnOut hx Bd.returns (hb hby own_d4_4) hr, hrun, hended, _, _, rfl, ?_, ⟨_, rfl⟩, hW, hsame.mono (by decide) (by decide)⟩
  show own_Q4 Z a_1 h0 n0 _ T1.heap _
  rw [e1]
  exact ⟨rfl, N0, rfl⟩
theorem own_d3_0 : decode prog_11_method_1_code 0 = .ok (.aload_n 0, 1) := by decide +kernel
theorem own_d3_1 : decode prog_11_method_1_code 1 = .ok (.invokespecial 1, 3) := by decide +kernel
theorem own_d3_4 : decode prog_11_method_1_code 4 = .ok (.aload_n 0, 1) := by decide +kernel
theorem own_d3_5 : decode prog_11_method_1_code 5 = .ok (.iload_n 1, 1) := by decide +kernel
theorem own_d3_6 : decode prog_11_method_1_code 6 = .ok (.putfield 7, 3) := by decide +kernel
theorem own_d3_9 : decode prog_11_method_1_code 9 = .ok (.aload_n 0, 1) := by decide +kernel
theorem own_d3_10 : decode prog_11_method_1_code 10 = .ok (.iload_n 2, 1) := by decide +kernel
theorem own_d3_11 : decode prog_11_method_1_code 11 = .ok (.putfield 13, 3) := by decide +kernel
theorem own_d3_14 : decode prog_11_method_1_code 14 = .ok (.aload_n 0, 1) := by decide +kernel
theorem own_d3_15 : decode prog_11_method_1_code 15 = .ok (.iload_n 3, 1) := by decide +kernel
theorem own_d3_16 : decode prog_11_method_1_code 16 = .ok (.putfield 16, 3) := by decide +kernel
theorem own_d3_19 : decode prog_11_method_1_code 19 = .ok (.aload_n 0, 1) := by decide +kernel
theorem own_d3_20 : decode prog_11_method_1_code 20 = .ok (.iload 4, 2) := by decide +kernel
theorem own_d3_22 : decode prog_11_method_1_code 22 = .ok (.putfield 19, 3) := by decide +kernel
theorem own_d3_25 : decode prog_11_method_1_code 25 = .ok (.return_, 1) := by decide +kernel
theorem own_ef_own_rm3 (m : MethodId) (x0 : Addr) (x1 : Int32) (x2 : Int32) (x3 : Int32) (x4 : Int32) : entryFrame m #[(.ref x0), (.int x1), (.int x2), (.int x3), (.int x4)] 5 = mkF m 0 #[.val (.ref x0), .val (.int x1), .val (.int x2), .val (.int x3), .val (.int x4)] [] := by first | (simp [entryFrame, mkF, argsToLocals, Value.category]; done) | rfl
def own_Q3 (Z : State) (a_1 : Addr) (p_2 : Int32) (p_3 : Int32) (p_4 : Int32) (p_5 : Int32) (w_firstRow_a_1 : Int32) (w_firstColumn_a_1 : Int32) (w_lastRow_a_1 : Int32) (w_lastColumn_a_1 : Int32) (h0 : Heap) (n0 : Nat) (v : Option Value) (h : Heap) (L : List Loc) : Prop := v = none ∧ Fr n0 L ∧ Keep h0 h [a_1] ∧ Exa Z h a_1 "com/example/ratebook/ratebook/CellRange" ∧ Fld Z h a_1 "com/example/ratebook/ratebook/CellRange" "firstRow" "I" (.int p_2) ∧ Fld Z h a_1 "com/example/ratebook/ratebook/CellRange" "firstColumn" "I" (.int p_3) ∧ Fld Z h a_1 "com/example/ratebook/ratebook/CellRange" "lastRow" "I" (.int p_4) ∧ Fld Z h a_1 "com/example/ratebook/ratebook/CellRange" "lastColumn" "I" (.int p_5)
set_option maxRecDepth 65536 in
set_option maxHeartbeats 40000000 in
theorem own_rm3 (l : Launch) (Z : State) (a0 : Array Value) (hw : ∀ d ∈ tables_1, d.before a0 Z = true) (ws : List Jvm.Cond) (a_1 : Addr) (p_2 : Int32) (p_3 : Int32) (p_4 : Int32) (p_5 : Int32) (w_firstRow_a_1 : Int32) (w_firstColumn_a_1 : Int32) (w_lastRow_a_1 : Int32) (w_lastColumn_a_1 : Int32) (h0 : Heap) (n0 : Nat) (Z0 : n0 ≤ h0.size) (pr_E_a_1 : Exa Z h0 a_1 "com/example/ratebook/ratebook/CellRange") (pr_F_a_1_firstRow : Fld Z h0 a_1 "com/example/ratebook/ratebook/CellRange" "firstRow" "I" (.int w_firstRow_a_1)) (pr_F_a_1_firstColumn : Fld Z h0 a_1 "com/example/ratebook/ratebook/CellRange" "firstColumn" "I" (.int w_firstColumn_a_1)) (pr_F_a_1_lastRow : Fld Z h0 a_1 "com/example/ratebook/ratebook/CellRange" "lastRow" "I" (.int w_lastRow_a_1)) (pr_F_a_1_lastColumn : Fld Z h0 a_1 "com/example/ratebook/ratebook/CellRange" "lastColumn" "I" (.int w_lastColumn_a_1)) (gw_a_1 : n0 ≤ a_1) :
    MetFree l (⟨"com/example/ratebook/ratebook/CellRange", "<init>", "(IIII)V"⟩ : MethodName) (head1 (Jvm.Cond.code (⟨"com/example/ratebook/ratebook/CellRange", "<init>", "(IIII)V"⟩ : MethodName) prog_11_method_1_code 5 none :: ws) ({ frames := 2, cells := 0, slots := 0, locals := 24 } : Room)) (fun a U => a = #[(.ref a_1), (.int p_2), (.int p_3), (.int p_4), (.int p_5)] ∧ Z.Warmed39 U.vm ∧ U.heap = h0) (fun _ _ _ _ _ => True) (fun _ U o U' => ∃ v L, o = .returned v ∧ own_Q3 Z a_1 p_2 p_3 p_4 p_5 w_firstRow_a_1 w_firstColumn_a_1 w_lastRow_a_1 w_lastColumn_a_1 h0 n0 v U'.heap L ∧ FrameEnd U o U' L ({ frames := 2, cells := 0, slots := 0, locals := 24 } : Room).cells ({ frames := 2, cells := 0, slots := 0, locals := 24 } : Room).slots) := by
  refine MetFree.of_bodySF (plainFor_of_name own_pn1) hisR ?_
  intro p e s m args below meth c s₁ Bd hml0 hP hK
  obtain ⟨rfl, hZ, hh⟩ := hP
  have hx := Bd.exec
  have hby := Bd.bytes
  have hml : c.maxLocals = 5 := hml0
  have hown : s.vm.findClass "com/example/ratebook/ratebook/CellRange" = some m.cls := findClass_of_methodNamed Bd.named
  have hnm := (name_of_methodNamed Bd.named Bd.method).1
  have X0 : Stand p l e ({ frames := 2, cells := 0, slots := 0, locals := 24 } : Room) s m #[(.ref a_1), (.int p_2), (.int p_3), (.int p_4), (.int p_5)] below meth c s₁ [] 0 0 := Stand.of_body Bd
  have e0 : s₁.heap = h0 := by rw [← hh, Bd.state]; rfl
  have N0 := Fr.nil n0
  have z0 : n0 ≤ h0.size := Z0
  have z1 := pr_E_a_1.lt
  have z2 := pr_F_a_1_firstRow.lt
  have z3 := pr_F_a_1_firstColumn.lt
  have z4 := pr_F_a_1_lastRow.lt
  have z5 := pr_F_a_1_lastColumn.lt
  have K0 : Keep h0 h0 [a_1] := Keep.refl h0 _
  show own_Go p.tables e below (fun t o => t.status = .running ∧ Ended t below o ∧ ∃ v L, o = .returned v ∧ own_Q3 Z a_1 p_2 p_3 p_4 p_5 w_firstRow_a_1 w_firstColumn_a_1 w_lastRow_a_1 w_lastColumn_a_1 h0 n0 v t.heap L ∧ FrameEnd s o t L ({ frames := 2, cells := 0, slots := 0, locals := 24 } : Room).cells ({ frames := 2, cells := 0, slots := 0, locals := 24 } : Room).slots) s₁ (entryFrame m #[(.ref a_1), (.int p_2), (.int p_3), (.int p_4), (.int p_5)] 5)
  rw [own_ef_own_rm3 m a_1 p_2 p_3 p_4 p_5]
  show own_Go _ _ _ _ s₁ (mkF m 0 #[.val (.ref a_1), .val (.int p_2), .val (.int p_3), .val (.int p_4), .val (.int p_5)] [])
  refine own_go (fun _ k => XS.aloadN X0.here hx rfl (hb hby own_d3_0) rfl rfl k) ?_
  show own_Go _ _ _ _ s₁ (mkF m 1 #[.val (.ref a_1), .val (.int p_2), .val (.int p_3), .val (.int p_4), .val (.int p_5)] [(.ref a_1)])
  obtain ⟨_, _, ⟨T6, L6, k6, n6⟩, -, X6, ⟨Lc6, hQ6, l6, y6, z6⟩, st6⟩ := X0.specialBack hx (y := (⟨"java/lang/Record", "<init>", "()V"⟩ : MethodName)) rfl hown (mvT hZ (hw _ (List.mem_of_getElem? (i := 13) rfl))) (mvT hZ (hw _ (List.mem_of_getElem? (i := 14) rfl))) (mvT hZ (hw _ (List.mem_of_getElem? (i := 17) rfl))) (by decide) (backOf (W := 0) (own_rm4 l Z a0 hw [] a_1  h0 n0 (by omega) ) hZ (hw _ (List.mem_of_getElem? (i := 17) rfl)) (hw _ (List.mem_of_getElem? (i := 16) rfl)) (by decide) (by decide)) (g := (mkF m 1 #[.val (.ref a_1), .val (.int p_2), .val (.int p_3), .val (.int p_4), .val (.int p_5)] [(.ref a_1)])) rfl (by rw [hml]; rfl) (Steps.refl _) (a := a_1) (argsL := []) (rest := []) (lenOf own_pd0 rfl) rfl (by show 2 * 0 + _ ≤ _; exact Nat.le_of_eq rfl) (hb hby own_d3_1) (fun _ _ => ⟨rfl, e0, (by decide : 0 + 0 ≤ _), (by decide : 0 + 0 ≤ _)⟩)
  dsimp only [Pt.U, Pt.locs, Pt.cells, Pt.slots] at X6 l6 y6 z6 st6 hQ6
  subst l6 y6 z6
  obtain ⟨rfl, N6q, e6⟩ := hQ6
  have N6 := Fr.app N0 N6q
  refine own_go (fun _ k => st6.trans k) ?_
  show own_Go _ _ _ _ T6 (mkF m 4 #[.val (.ref a_1), .val (.int p_2), .val (.int p_3), .val (.int p_4), .val (.int p_5)] [])
  refine own_go (fun _ k => XS.aloadN X6.here hx rfl (hb hby own_d3_4) rfl rfl k) ?_
  show own_Go _ _ _ _ T6 (mkF m 5 #[.val (.ref a_1), .val (.int p_2), .val (.int p_3), .val (.int p_4), .val (.int p_5)] [(.ref a_1)])
  refine own_go (fun _ k => XS.iloadN X6.here hx rfl (hb hby own_d3_5) rfl k) ?_
  show own_Go _ _ _ _ T6 (mkF m 6 #[.val (.ref a_1), .val (.int p_2), .val (.int p_3), .val (.int p_4), .val (.int p_5)] [(.int p_2), (.ref a_1)])
  obtain ⟨T7, h7, X7, e7, W7, st7⟩ := putF X6 hx hZ hown (host := "") (Or.inl (hw _ (List.mem_of_getElem? (i := 21) rfl))) Via.refl e6 pr_F_a_1_firstRow pr_E_a_1 (Or.inr ⟨(hw _ (List.mem_of_getElem? (i := 22) rfl)), rfl, hnm⟩) (hw _ (List.mem_of_getElem? (i := 8) rfl)) (ty := .int) (by decide) rfl rfl (g := (mkF m 6 #[.val (.ref a_1), .val (.int p_2), .val (.int p_3), .val (.int p_4), .val (.int p_5)] [(.int p_2), (.ref a_1)])) rfl rfl (hb hby own_d3_6)
  have z8 := W7.size
  have K7 : Keep h0 h7 [a_1] := K0.wr W7 (Or.inl (List.mem_of_getElem? (i := 0) rfl))
  have N7 := Fr.snoc X7 N6 (by omega : n0 ≤ a_1)
  have Fw7 : Fld Z h7 a_1 "com/example/ratebook/ratebook/CellRange" "firstRow" "I" (.int p_2) := Fld.same W7 pr_F_a_1_firstRow
  refine own_go (fun _ k => st7 _ k) ?_
  show own_Go _ _ _ _ T7 (mkF m 9 #[.val (.ref a_1), .val (.int p_2), .val (.int p_3), .val (.int p_4), .val (.int p_5)] [])
  refine own_go (fun _ k => XS.aloadN X7.here hx rfl (hb hby own_d3_9) rfl rfl k) ?_
  show own_Go _ _ _ _ T7 (mkF m 10 #[.val (.ref a_1), .val (.int p_2), .val (.int p_3), .val (.int p_4), .val (.int p_5)] [(.ref a_1)])
  refine own_go (fun _ k => XS.iloadN X7.here hx rfl (hb hby own_d3_10) rfl k) ?_
  show own_Go _ _ _ _ T7 (mkF m 11 #[.val (.ref a_1), .val (.int p_2), .val (.int p_3), .val (.int p_4), .val (.int p_5)] [(.int p_3), (.ref a_1)])
  have f9 : Exa Z h7 a_1 "com/example/ratebook/ratebook/CellRange" := (pr_E_a_1.wr W7)
  have f10 : Fld Z h7 a_1 "com/example/ratebook/ratebook/CellRange" "firstColumn" "I" (.int w_firstColumn_a_1) := (pr_F_a_1_firstColumn.other W7 (Or.inr (slot_ne (Or.inr (hw _ (List.mem_of_getElem? (i := 24) rfl))) (Or.inr (hw _ (List.mem_of_getElem? (i := 22) rfl))) (by decide) (t := .int) (t' := .int) (by decide) (by decide))))
  obtain ⟨T11, h11, X11, e11, W11, st11⟩ := putF X7 hx hZ hown (host := "") (Or.inl (hw _ (List.mem_of_getElem? (i := 23) rfl))) Via.refl e7 f10 f9 (Or.inr ⟨(hw _ (List.mem_of_getElem? (i := 24) rfl)), rfl, hnm⟩) (hw _ (List.mem_of_getElem? (i := 8) rfl)) (ty := .int) (by decide) rfl rfl (g := (mkF m 11 #[.val (.ref a_1), .val (.int p_2), .val (.int p_3), .val (.int p_4), .val (.int p_5)] [(.int p_3), (.ref a_1)])) rfl rfl (hb hby own_d3_11)
  have z12 := W11.size
  have K11 : Keep h0 h11 [a_1] := K7.wr W11 (Or.inl (List.mem_of_getElem? (i := 0) rfl))
  have N11 := Fr.snoc X11 N7 (by omega : n0 ≤ a_1)
  have Fw11 : Fld Z h11 a_1 "com/example/ratebook/ratebook/CellRange" "firstColumn" "I" (.int p_3) := Fld.same W11 f10
  refine own_go (fun _ k => st11 _ k) ?_
  show own_Go _ _ _ _ T11 (mkF m 14 #[.val (.ref a_1), .val (.int p_2), .val (.int p_3), .val (.int p_4), .val (.int p_5)] [])
  refine own_go (fun _ k => XS.aloadN X11.here hx rfl (hb hby own_d3_14) rfl rfl k) ?_
  show own_Go _ _ _ _ T11 (mkF m 15 #[.val (.ref a_1), .val (.int p_2), .val (.int p_3), .val (.int p_4), .val (.int p_5)] [(.ref a_1)])
  refine own_go (fun _ k => XS.iloadN X11.here hx rfl (hb hby own_d3_15) rfl k) ?_
  show own_Go _ _ _ _ T11 (mkF m 16 #[.val (.ref a_1), .val (.int p_2), .val (.int p_3), .val (.int p_4), .val (.int p_5)] [(.int p_4), (.ref a_1)])
  have f13 : Exa Z h11 a_1 "com/example/ratebook/ratebook/CellRange" := (f9.wr W11)
  have f14 : Fld Z h11 a_1 "com/example/ratebook/ratebook/CellRange" "lastRow" "I" (.int w_lastRow_a_1) := ((pr_F_a_1_lastRow.other W7 (Or.inr (slot_ne (Or.inr (hw _ (List.mem_of_getElem? (i := 26) rfl))) (Or.inr (hw _ (List.mem_of_getElem? (i := 22) rfl))) (by decide) (t := .int) (t' := .int) (by decide) (by decide)))).other W11 (Or.inr (slot_ne (Or.inr (hw _ (List.mem_of_getElem? (i := 26) rfl))) (Or.inr (hw _ (List.mem_of_getElem? (i := 24) rfl))) (by decide) (t := .int) (t' := .int) (by decide) (by decide))))
  obtain ⟨T15, h15, X15, e15, W15, st15⟩ := putF X11 hx hZ hown (host := "") (Or.inl (hw _ (List.mem_of_getElem? (i := 25) rfl))) Via.refl e11 f14 f13 (Or.inr ⟨(hw _ (List.mem_of_getElem? (i := 26) rfl)), rfl, hnm⟩) (hw _ (List.mem_of_getElem? (i := 8) rfl)) (ty := .int) (by decide) rfl rfl (g := (mkF m 16 #[.val (.ref a_1), .val (.int p_2), .val (.int p_3), .val (.int p_4), .val (.int p_5)] [(.int p_4), (.ref a_1)])) rfl rfl (hb hby own_d3_16)
  have z16 := W15.size
  have K15 : Keep h0 h15 [a_1] := K11.wr W15 (Or.inl (List.mem_of_getElem? (i := 0) rfl))
  have N15 := Fr.snoc X15 N11 (by omega : n0 ≤ a_1)
  have Fw15 : Fld Z h15 a_1 "com/example/ratebook/ratebook/CellRange" "lastRow" "I" (.int p_4) := Fld.same W15 f14
  refine own_go (fun _ k => st15 _ k) ?_
  show own_Go _ _ _ _ T15 (mkF m 19 #[.val (.ref a_1), .val (.int p_2), .val (.int p_3), .val (.int p_4), .val (.int p_5)] [])
  refine own_go (fun _ k => XS.aloadN X15.here hx rfl (hb hby own_d3_19) rfl rfl k) ?_
  show own_Go _ _ _ _ T15 (mkF m 20 #[.val (.ref a_1), .val (.int p_2), .val (.int p_3), .val (.int p_4), .val (.int p_5)] [(.ref a_1)])
  refine own_go (fun _ k => XS.iload X15.here hx rfl (hb hby own_d3_20) rfl k) ?_
  show own_Go _ _ _ _ T15 (mkF m 22 #[.val (.ref a_1), .val (.int p_2), .val (.int p_3), .val (.int p_4), .val (.int p_5)] [(.int p_5), (.ref a_1)])
  have f17 : Exa Z h15 a_1 "com/example/ratebook/ratebook/CellRange" := (f13.wr W15)
  have f18 : Fld Z h15 a_1 "com/example/ratebook/ratebook/CellRange" "lastColumn" "I" (.int w_lastColumn_a_1) := (((pr_F_a_1_lastColumn.other W7 (Or.inr (slot_ne (Or.inr (hw _ (List.mem_of_getElem? (i := 28) rfl))) (Or.inr (hw _ (List.mem_of_getElem? (i := 22) rfl))) (by decide) (t := .int) (t' := .int) (by decide) (by decide)))).other W11 (Or.inr (slot_ne (Or.inr (hw _ (List.mem_of_getElem? (i := 28) rfl))) (Or.inr (hw _ (List.mem_of_getElem? (i := 24) rfl))) (by decide) (t := .int) (t' := .int) (by decide) (by decide)))).other W15 (Or.inr (slot_ne (Or.inr (hw _ (List.mem_of_getElem? (i := 28) rfl))) (Or.inr (hw _ (List.mem_of_getElem? (i := 26) rfl))) (by decide) (t := .int) (t' := .int) (by decide) (by decide))))
  obtain ⟨T19, h19, X19, e19, W19, st19⟩ := putF X15 hx hZ hown (host := "") (Or.inl (hw _ (List.mem_of_getElem? (i := 27) rfl))) Via.refl e15 f18 f17 (Or.inr ⟨(hw _ (List.mem_of_getElem? (i := 28) rfl)), rfl, hnm⟩) (hw _ (List.mem_of_getElem? (i := 8) rfl)) (ty := .int) (by decide) rfl rfl (g := (mkF m 22 #[.val (.ref a_1), .val (.int p_2), .val (.int p_3), .val (.int p_4), .val (.int p_5)] [(.int p_5), (.ref a_1)])) rfl rfl (hb hby own_d3_22)
  have z20 := W19.size
  have K19 : Keep h0 h19 [a_1] := K15.wr W19 (Or.inl (List.mem_of_getElem? (i := 0) rfl))
  have N19 := Fr.snoc X19 N15 (by omega : n0 ≤ a_1)
  have Fw19 : Fld Z h19 a_1 "com/example/ratebook/ratebook/CellRange" "lastColumn" "I" (.int p_5) := Fld.same W19 f18
  refine own_go (fun _ k => st19 _ k) ?_
  show own_Go _ _ _ _ T19 (mkF m 25 #[.val (.ref a_1), .val (.int p_2), .val (.int p_3), .val (.int p_4), .val (.int p_5)] [])
  obtain ⟨fs, hr, hrun, hended, hW, hsame⟩ := X19.leave (v := none) (fun _ => rfl)
  refine ⟨_, _, X19.returnOut hx Bd.returns (hb hby own_d3_25) hr, hrun, hended, _, _, rfl, ?_, ⟨_, rfl⟩, hW, hsame.mono (by decide) (by decide)⟩
  show own_Q3 Z a_1 p_2 p_3 p_4 p_5 w_firstRow_a_1 w_firstColumn_a_1 w_lastRow_a_1 w_lastColumn_a_1 h0 n0 _ T19.heap _
  rw [e19]
  have f22 : Exa Z h19 a_1 "com/example/ratebook/ratebook/CellRange" := (f17.wr W19)
  have f23 : Fld Z h19 a_1 "com/example/ratebook/ratebook/CellRange" "firstRow" "I" (.int p_2) := (((Fw7.other W11 (Or.inr (slot_ne (Or.inr (hw _ (List.mem_of_getElem? (i := 22) rfl))) (Or.inr (hw _ (List.mem_of_getElem? (i := 24) rfl))) (by decide) (t := .int) (t' := .int) (by decide) (by decide)))).other W15 (Or.inr (slot_ne (Or.inr (hw _ (List.mem_of_getElem? (i := 22) rfl))) (Or.inr (hw _ (List.mem_of_getElem? (i := 26) rfl))) (by decide) (t := .int) (t' := .int) (by decide) (by decide)))).other W19 (Or.inr (slot_ne (Or.inr (hw _ (List.mem_of_getElem? (i := 22) rfl))) (Or.inr (hw _ (List.mem_of_getElem? (i := 28) rfl))) (by decide) (t := .int) (t' := .int) (by decide) (by decide))))
  have f24 : Fld Z h19 a_1 "com/example/ratebook/ratebook/CellRange" "firstColumn" "I" (.int p_3) := ((Fw11.other W15 (Or.inr (slot_ne (Or.inr (hw _ (List.mem_of_getElem? (i := 24) rfl))) (Or.inr (hw _ (List.mem_of_getElem? (i := 26) rfl))) (by decide) (t := .int) (t' := .int) (by decide) (by decide)))).other W19 (Or.inr (slot_ne (Or.inr (hw _ (List.mem_of_getElem? (i := 24) rfl))) (Or.inr (hw _ (List.mem_of_getElem? (i := 28) rfl))) (by decide) (t := .int) (t' := .int) (by decide) (by decide))))
  have f25 : Fld Z h19 a_1 "com/example/ratebook/ratebook/CellRange" "lastRow" "I" (.int p_4) := (Fw15.other W19 (Or.inr (slot_ne (Or.inr (hw _ (List.mem_of_getElem? (i := 26) rfl))) (Or.inr (hw _ (List.mem_of_getElem? (i := 28) rfl))) (by decide) (t := .int) (t' := .int) (by decide) (by decide))))
  exact ⟨rfl, N19, K19, f22, f23, f24, f25, Fw19⟩
theorem own_d6_0 : decode prog_11_method_6_code 0 = .ok (.iload_n 1, 1) := by decide +kernel
theorem own_d6_1 : decode prog_11_method_6_code 1 = .ok (.aload_n 0, 1) := by decide +kernel
theorem own_d6_2 : decode prog_11_method_6_code 2 = .ok (.getfield 7, 3) := by decide +kernel
theorem own_d6_5 : decode prog_11_method_6_code 5 = .ok (.if_icmp .lt 31, 3) := by decide +kernel
theorem own_d6_8 : decode prog_11_method_6_code 8 = .ok (.iload_n 1, 1) := by decide +kernel
theorem own_d6_9 : decode prog_11_method_6_code 9 = .ok (.aload_n 0, 1) := by decide +kernel
theorem own_d6_10 : decode prog_11_method_6_code 10 = .ok (.getfield 16, 3) := by decide +kernel
theorem own_d6_13 : decode prog_11_method_6_code 13 = .ok (.if_icmp .gt 23, 3) := by decide +kernel
theorem own_d6_16 : decode prog_11_method_6_code 16 = .ok (.iload_n 2, 1) := by decide +kernel
theorem own_d6_17 : decode prog_11_method_6_code 17 = .ok (.aload_n 0, 1) := by decide +kernel
theorem own_d6_18 : decode prog_11_method_6_code 18 = .ok (.getfield 13, 3) := by decide +kernel
theorem own_d6_21 : decode prog_11_method_6_code 21 = .ok (.if_icmp .lt 15, 3) := by decide +kernel
theorem own_d6_24 : decode prog_11_method_6_code 24 = .ok (.iload_n 2, 1) := by decide +kernel
theorem own_d6_25 : decode prog_11_method_6_code 25 = .ok (.aload_n 0, 1) := by decide +kernel
theorem own_d6_26 : decode prog_11_method_6_code 26 = .ok (.getfield 19, 3) := by decide +kernel
theorem own_d6_29 : decode prog_11_method_6_code 29 = .ok (.if_icmp .gt 7, 3) := by decide +kernel
theorem own_d6_32 : decode prog_11_method_6_code 32 = .ok (.iconst 1, 1) := by decide +kernel
theorem own_d6_33 : decode prog_11_method_6_code 33 = .ok (.goto 4, 3) := by decide +kernel
theorem own_d6_36 : decode prog_11_method_6_code 36 = .ok (.iconst 0, 1) := by decide +kernel
theorem own_d6_37 : decode prog_11_method_6_code 37 = .ok (.ireturn, 1) := by decide +kernel
theorem own_ef_own_rm6 (m : MethodId) (x0 : Addr) (x1 : Int32) (x2 : Int32) : entryFrame m #[(.ref x0), (.int x1), (.int x2)] 3 = mkF m 0 #[.val (.ref x0), .val (.int x1), .val (.int x2)] [] := by first | (simp [entryFrame, mkF, argsToLocals, Value.category]; done) | rfl
def own_rm6_ret (p_2 : Int32) (p_3 : Int32) (w_firstRow_a_1 : Int32) (w_lastRow_a_1 : Int32) (w_firstColumn_a_1 : Int32) (w_lastColumn_a_1 : Int32) : Int32 := if p_2 < w_firstRow_a_1 then (0 : Int32) else if w_lastRow_a_1 < p_2 then (0 : Int32) else if p_3 < w_firstColumn_a_1 then (0 : Int32) else if w_lastColumn_a_1 < p_3 then (0 : Int32) else (1 : Int32)
def own_Q6 (Z : State) (a_1 : Addr) (p_2 : Int32) (p_3 : Int32) (w_firstRow_a_1 : Int32) (w_lastRow_a_1 : Int32) (w_firstColumn_a_1 : Int32) (w_lastColumn_a_1 : Int32) (h0 : Heap) (n0 : Nat) (v : Option Value) (h : Heap) (L : List Loc) : Prop := ∃ (r_ : Int32), v = some (.int r_) ∧ Fr n0 L ∧ r_ = (own_rm6_ret p_2 p_3 w_firstRow_a_1 w_lastRow_a_1 w_firstColumn_a_1 w_lastColumn_a_1) ∧ h = h0
set_option maxRecDepth 65536 in
set_option maxHeartbeats 40000000 in
theorem own_rm6 (l : Launch) (Z : State) (a0 : Array Value) (hw : ∀ d ∈ tables_1, d.before a0 Z = true) (ws : List Jvm.Cond) (a_1 : Addr) (p_2 : Int32) (p_3 : Int32) (w_firstRow_a_1 : Int32) (w_lastRow_a_1 : Int32) (w_firstColumn_a_1 : Int32) (w_lastColumn_a_1 : Int32) (h0 : Heap) (n0 : Nat) (Z0 : n0 ≤ h0.size) (pr_F_a_1_firstRow : Fld Z h0 a_1 "com/example/ratebook/ratebook/CellRange" "firstRow" "I" (.int w_firstRow_a_1)) (pr_F_a_1_lastRow : Fld Z h0 a_1 "com/example/ratebook/ratebook/CellRange" "lastRow" "I" (.int w_lastRow_a_1)) (pr_F_a_1_firstColumn : Fld Z h0 a_1 "com/example/ratebook/ratebook/CellRange" "firstColumn" "I" (.int w_firstColumn_a_1)) (pr_F_a_1_lastColumn : Fld Z h0 a_1 "com/example/ratebook/ratebook/CellRange" "lastColumn" "I" (.int w_lastColumn_a_1)) :
    MetFree l (⟨"com/example/ratebook/ratebook/CellRange", "holds", "(II)Z"⟩ : MethodName) (head1 (Jvm.Cond.code (⟨"com/example/ratebook/ratebook/CellRange", "holds", "(II)Z"⟩ : MethodName) prog_11_method_6_code 3 (some .boolean) :: ws) ({ frames := 0, cells := 0, slots := 0, locals := 0 } : Room)) (fun a U => a = #[(.ref a_1), (.int p_2), (.int p_3)] ∧ Z.Warmed39 U.vm ∧ U.heap = h0) (fun _ _ _ _ _ => True) (fun _ U o U' => ∃ v L, o = .returned v ∧ own_Q6 Z a_1 p_2 p_3 w_firstRow_a_1 w_lastRow_a_1 w_firstColumn_a_1 w_lastColumn_a_1 h0 n0 v U'.heap L ∧ FrameEnd U o U' L ({ frames := 0, cells := 0, slots := 0, locals := 0 } : Room).cells ({ frames := 0, cells := 0, slots := 0, locals := 0 } : Room).slots) := by
  refine MetFree.of_bodySF (plainFor_of_name own_pn1) hisR ?_
  intro p e s m args below meth c s₁ Bd hml0 hP hK
  obtain ⟨rfl, hZ, hh⟩ := hP
  have hx := Bd.exec
  have hby := Bd.bytes
  have hml : c.maxLocals = 3 := hml0
  have hown : s.vm.findClass "com/example/ratebook/ratebook/CellRange" = some m.cls := findClass_of_methodNamed Bd.named
  have hnm := (name_of_methodNamed Bd.named Bd.method).1
  have X0 : Stand p l e ({ frames := 0, cells := 0, slots := 0, locals := 0 } : Room) s m #[(.ref a_1), (.int p_2), (.int p_3)] below meth c s₁ [] 0 0 := Stand.of_body Bd
  have e0 : s₁.heap = h0 := by rw [← hh, Bd.state]; rfl
  have N0 := Fr.nil n0
  have z0 : n0 ≤ h0.size := Z0
  have z1 := pr_F_a_1_firstRow.lt
  have z2 := pr_F_a_1_lastRow.lt
  have z3 := pr_F_a_1_firstColumn.lt
  have z4 := pr_F_a_1_lastColumn.lt
  show own_Go p.tables e below (fun t o => t.status = .running ∧ Ended t below o ∧ ∃ v L, o = .returned v ∧ own_Q6 Z a_1 p_2 p_3 w_firstRow_a_1 w_lastRow_a_1 w_firstColumn_a_1 w_lastColumn_a_1 h0 n0 v t.heap L ∧ FrameEnd s o t L ({ frames := 0, cells := 0, slots := 0, locals := 0 } : Room).cells ({ frames := 0, cells := 0, slots := 0, locals := 0 } : Room).slots) s₁ (entryFrame m #[(.ref a_1), (.int p_2), (.int p_3)] 3)
  rw [own_ef_own_rm6 m a_1 p_2 p_3]
  show own_Go _ _ _ _ s₁ (mkF m 0 #[.val (.ref a_1), .val (.int p_2), .val (.int p_3)] [])
  refine own_go (fun _ k => XS.iloadN X0.here hx rfl (hb hby own_d6_0) rfl k) ?_
  show own_Go _ _ _ _ s₁ (mkF m 1 #[.val (.ref a_1), .val (.int p_2), .val (.int p_3)] [(.int p_2)])
  refine own_go (fun _ k => XS.aloadN X0.here hx rfl (hb hby own_d6_1) rfl rfl k) ?_
  show own_Go _ _ _ _ s₁ (mkF m 2 #[.val (.ref a_1), .val (.int p_2), .val (.int p_3)] [(.ref a_1), (.int p_2)])
  obtain ⟨T5, X5, e5, st5⟩ := getF X0 hx hZ hown (host := "") (Or.inl (hw _ (List.mem_of_getElem? (i := 21) rfl))) Via.refl e0 pr_F_a_1_firstRow (g := (mkF m 2 #[.val (.ref a_1), .val (.int p_2), .val (.int p_3)] [(.ref a_1), (.int p_2)])) rfl rfl (hb hby own_d6_2)
  refine own_go (fun _ k => st5 _ k) ?_
  show own_Go _ _ _ _ T5 (mkF m 5 #[.val (.ref a_1), .val (.int p_2), .val (.int p_3)] [(.int w_firstRow_a_1), (.int p_2)])
  by_cases hc6 : p_2 < w_firstRow_a_1
  · refine own_go (fun _ k => XS.icmpYes X5.here hx rfl (pc0 := 5) (pc' := 36) rfl (hb hby own_d6_5) rfl (Jvm.Free.XT.ii_lt_t hc6) (by decide) (by decide) k) ?_
    show own_Go _ _ _ _ T5 (mkF m 36 #[.val (.ref a_1), .val (.int p_2), .val (.int p_3)] [])
    refine own_go (fun _ k => XS.iconst X5.here hx rfl (hb hby own_d6_36) k) ?_
    show own_Go _ _ _ _ T5 (mkF m 37 #[.val (.ref a_1), .val (.int p_2), .val (.int p_3)] [(.int (0 : Int32))])
    obtain ⟨fs, hr, hrun, hended, hW, hsame⟩ := X5.leave (v := some (.int (0 : Int32))) (fun h => by rw [Bd.returns] at h; cases h)
    refine ⟨_, _, retOut X5 hx Bd.returns rfl (Or.inl ⟨rfl, Or.inr (Or.inl rfl), _, rfl⟩) (hb hby own_d6_37) hr, hrun, hended, _, _, rfl, ?_, ⟨_, rfl⟩, hW, hsame.mono (by decide) (by decide)⟩
    show own_Q6 Z a_1 p_2 p_3 w_firstRow_a_1 w_lastRow_a_1 w_firstColumn_a_1 w_lastColumn_a_1 h0 n0 _ T5.heap _
    rw [e5]
    exact ⟨_, rfl, N0, (by subst_vars; first | rfl | simp only [own_rm6_ret, if_pos hc6]), rfl⟩
  · refine own_go (fun _ k => XS.icmpNo X5.here hx rfl (hb hby own_d6_5) rfl (Jvm.Free.XT.ii_lt_f hc6) k) ?_
    show own_Go _ _ _ _ T5 (mkF m 8 #[.val (.ref a_1), .val (.int p_2), .val (.int p_3)] [])
    refine own_go (fun _ k => XS.iloadN X5.here hx rfl (hb hby own_d6_8) rfl k) ?_
    show own_Go _ _ _ _ T5 (mkF m 9 #[.val (.ref a_1), .val (.int p_2), .val (.int p_3)] [(.int p_2)])
    refine own_go (fun _ k => XS.aloadN X5.here hx rfl (hb hby own_d6_9) rfl rfl k) ?_
    show own_Go _ _ _ _ T5 (mkF m 10 #[.val (.ref a_1), .val (.int p_2), .val (.int p_3)] [(.ref a_1), (.int p_2)])
    obtain ⟨T8, X8, e8, st8⟩ := getF X5 hx hZ hown (host := "") (Or.inl (hw _ (List.mem_of_getElem? (i := 25) rfl))) Via.refl e5 pr_F_a_1_lastRow (g := (mkF m 10 #[.val (.ref a_1), .val (.int p_2), .val (.int p_3)] [(.ref a_1), (.int p_2)])) rfl rfl (hb hby own_d6_10)
    refine own_go (fun _ k => st8 _ k) ?_
    show own_Go _ _ _ _ T8 (mkF m 13 #[.val (.ref a_1), .val (.int p_2), .val (.int p_3)] [(.int w_lastRow_a_1), (.int p_2)])
    by_cases hc9 : w_lastRow_a_1 < p_2
    · refine own_go (fun _ k => XS.icmpYes X8.here hx rfl (pc0 := 13) (pc' := 36) rfl (hb hby own_d6_13) rfl (Jvm.Free.XT.ii_gt_t hc9) (by decide) (by decide) k) ?_
      show own_Go _ _ _ _ T8 (mkF m 36 #[.val (.ref a_1), .val (.int p_2), .val (.int p_3)] [])
      refine own_go (fun _ k => XS.iconst X8.here hx rfl (hb hby own_d6_36) k) ?_
      show own_Go _ _ _ _ T8 (mkF m 37 #[.val (.ref a_1), .val (.int p_2), .val (.int p_3)] [(.int (0 : Int32))])
      obtain ⟨fs, hr, hrun, hended, hW, hsame⟩ := X8.leave (v := some (.int (0 : Int32))) (fun h => by rw [Bd.returns] at h; cases h)
      refine ⟨_, _, retOut X8 hx Bd.returns rfl (Or.inl ⟨rfl, Or.inr (Or.inl rfl), _, rfl⟩) (hb hby own_d6_37) hr, hrun, hended, _, _, rfl, ?_, ⟨_, rfl⟩, hW, hsame.mono (by decide) (by decide)⟩
      show own_Q6 Z a_1 p_2 p_3 w_firstRow_a_1 w_lastRow_a_1 w_firstColumn_a_1 w_lastColumn_a_1 h0 n0 _ T8.heap _
      rw [e8]
      exact ⟨_, rfl, N0, (by subst_vars; first | rfl | simp only [own_rm6_ret, if_neg hc6, if_pos hc9]), rfl⟩
    · refine own_go (fun _ k => XS.icmpNo X8.here hx rfl (hb hby own_d6_13) rfl (Jvm.Free.XT.ii_gt_f hc9) k) ?_
      show own_Go _ _ _ _ T8 (mkF m 16 #[.val (.ref a_1), .val (.int p_2), .val (.int p_3)] [])
      refine own_go (fun _ k => XS.iloadN X8.here hx rfl (hb hby own_d6_16) rfl k) ?_
      show own_Go _ _ _ _ T8 (mkF m 17 #[.val (.ref a_1), .val (.int p_2), .val (.int p_3)] [(.int p_3)])
      refine own_go (fun _ k => XS.aloadN X8.here hx rfl (hb hby own_d6_17) rfl rfl k) ?_
      show own_Go _ _ _ _ T8 (mkF m 18 #[.val (.ref a_1), .val (.int p_2), .val (.int p_3)] [(.ref a_1), (.int p_3)])
      obtain ⟨T11, X11, e11, st11⟩ := getF X8 hx hZ hown (host := "") (Or.inl (hw _ (List.mem_of_getElem? (i := 23) rfl))) Via.refl e8 pr_F_a_1_firstColumn (g := (mkF m 18 #[.val (.ref a_1), .val (.int p_2), .val (.int p_3)] [(.ref a_1), (.int p_3)])) rfl rfl (hb hby own_d6_18)
      refine own_go (fun _ k => st11 _ k) ?_
      show own_Go _ _ _ _ T11 (mkF m 21 #[.val (.ref a_1), .val (.int p_2), .val (.int p_3)] [(.int w_firstColumn_a_1), (.int p_3)])
      by_cases hc12 : p_3 < w_firstColumn_a_1
      · refine own_go (fun _ k => XS.icmpYes X11.here hx rfl (pc0 := 21) (pc' := 36) rfl (hb hby own_d6_21) rfl (Jvm.Free.XT.ii_lt_t hc12) (by decide) (by decide) k) ?_
        show own_Go _ _ _ _ T11 (mkF m 36 #[.val (.ref a_1), .val (.int p_2), .val (.int p_3)] [])
        refine own_go (fun _ k => XS.iconst X11.here hx rfl (hb hby own_d6_36) k) ?_
        show own_Go _ _ _ _ T11 (mkF m 37 #[.val (.ref a_1), .val (.int p_2), .val (.int p_3)] [(.int (0 : Int32))])
        obtain ⟨fs, hr, hrun, hended, hW, hsame⟩ := X11.leave (v := some (.int (0 : Int32))) (fun h => by rw [Bd.returns] at h; cases h)
        refine ⟨_, _, retOut X11 hx Bd.returns rfl (Or.inl ⟨rfl, Or.inr (Or.inl rfl), _, rfl⟩) (hb hby own_d6_37) hr, hrun, hended, _, _, rfl, ?_, ⟨_, rfl⟩, hW, hsame.mono (by decide) (by decide)⟩
        show own_Q6 Z a_1 p_2 p_3 w_firstRow_a_1 w_lastRow_a_1 w_firstColumn_a_1 w_lastColumn_a_1 h0 n0 _ T11.heap _
        rw [e11]
        exact ⟨_, rfl, N0, (by subst_vars; first | rfl | simp only [own_rm6_ret, if_neg hc6, if_neg hc9, if_pos hc12]), rfl⟩
      · refine own_go (fun _ k => XS.icmpNo X11.here hx rfl (hb hby own_d6_21) rfl (Jvm.Free.XT.ii_lt_f hc12) k) ?_
        show own_Go _ _ _ _ T11 (mkF m 24 #[.val (.ref a_1), .val (.int p_2), .val (.int p_3)] [])
        refine own_go (fun _ k => XS.iloadN X11.here hx rfl (hb hby own_d6_24) rfl k) ?_
        show own_Go _ _ _ _ T11 (mkF m 25 #[.val (.ref a_1), .val (.int p_2), .val (.int p_3)] [(.int p_3)])
        refine own_go (fun _ k => XS.aloadN X11.here hx rfl (hb hby own_d6_25) rfl rfl k) ?_
        show own_Go _ _ _ _ T11 (mkF m 26 #[.val (.ref a_1), .val (.int p_2), .val (.int p_3)] [(.ref a_1), (.int p_3)])
        obtain ⟨T14, X14, e14, st14⟩ := getF X11 hx hZ hown (host := "") (Or.inl (hw _ (List.mem_of_getElem? (i := 27) rfl))) Via.refl e11 pr_F_a_1_lastColumn (g := (mkF m 26 #[.val (.ref a_1), .val (.int p_2), .val (.int p_3)] [(.ref a_1), (.int p_3)])) rfl rfl (hb hby own_d6_26)
        refine own_go (fun _ k => st14 _ k) ?_
        show own_Go _ _ _ _ T14 (mkF m 29 #[.val (.ref a_1), .val (.int p_2), .val (.int p_3)] [(.int w_lastColumn_a_1), (.int p_3)])
        by_cases hc15 : w_lastColumn_a_1 < p_3
        · refine own_go (fun _ k => XS.icmpYes X14.here hx rfl (pc0 := 29) (pc' := 36) rfl (hb hby own_d6_29) rfl (Jvm.Free.XT.ii_gt_t hc15) (by decide) (by decide) k) ?_
          show own_Go _ _ _ _ T14 (mkF m 36 #[.val (.ref a_1), .val (.int p_2), .val (.int p_3)] [])
          refine own_go (fun _ k => XS.iconst X14.here hx rfl (hb hby own_d6_36) k) ?_
          show own_Go _ _ _ _ T14 (mkF m 37 #[.val (.ref a_1), .val (.int p_2), .val (.int p_3)] [(.int (0 : Int32))])
          obtain ⟨fs, hr, hrun, hended, hW, hsame⟩ := X14.leave (v := some (.int (0 : Int32))) (fun h => by rw [Bd.returns] at h; cases h)
          refine ⟨_, _, retOut X14 hx Bd.returns rfl (Or.inl ⟨rfl, Or.inr (Or.inl rfl), _, rfl⟩) (hb hby own_d6_37) hr, hrun, hended, _, _, rfl, ?_, ⟨_, rfl⟩, hW, hsame.mono (by decide) (by decide)⟩
          show own_Q6 Z a_1 p_2 p_3 w_firstRow_a_1 w_lastRow_a_1 w_firstColumn_a_1 w_lastColumn_a_1 h0 n0 _ T14.heap _
          rw [e14]
          exact ⟨_, rfl, N0, (by subst_vars; first | rfl | simp only [own_rm6_ret, if_neg hc6, if_neg hc9, if_neg hc12, if_pos hc15]), rfl⟩
        · refine own_go (fun _ k => XS.icmpNo X14.here hx rfl (hb hby own_d6_29) rfl (Jvm.Free.XT.ii_gt_f hc15) k) ?_
          show own_Go _ _ _ _ T14 (mkF m 32 #[.val (.ref a_1), .val (.int p_2), .val (.int p_3)] [])
          refine own_go (fun _ k => XS.iconst X14.here hx rfl (hb hby own_d6_32) k) ?_
          show own_Go _ _ _ _ T14 (mkF m 33 #[.val (.ref a_1), .val (.int p_2), .val (.int p_3)] [(.int (1 : Int32))])
          refine own_go (fun _ k => XS.goto X14.here hx rfl (pc0 := 33) (pc' := 37) rfl (hb hby own_d6_33) (by decide) (by decide) k) ?_
          show own_Go _ _ _ _ T14 (mkF m 37 #[.val (.ref a_1), .val (.int p_2), .val (.int p_3)] [(.int (1 : Int32))])
          obtain ⟨fs, hr, hrun, hended, hW, hsame⟩ := X14.leave (v := some (.int (1 : Int32))) (fun h => by rw [Bd.returns] at h; cases h)
          refine ⟨_, _, retOut X14 hx Bd.returns rfl (Or.inl ⟨rfl, Or.inr (Or.inl rfl), _, rfl⟩) (hb hby own_d6_37) hr, hrun, hended, _, _, rfl, ?_, ⟨_, rfl⟩, hW, hsame.mono (by decide) (by decide)⟩
          show own_Q6 Z a_1 p_2 p_3 w_firstRow_a_1 w_lastRow_a_1 w_firstColumn_a_1 w_lastColumn_a_1 h0 n0 _ T14.heap _
          rw [e14]
          exact ⟨_, rfl, N0, (by subst_vars; first | rfl | simp only [own_rm6_ret, if_neg hc6, if_neg hc9, if_neg hc12, if_neg hc15]), rfl⟩
theorem own_sub (x y : Int32) : (x.toInt64 - y.toInt64 < (0 : Int64)) ↔ x < y := by
  have e0 : (0 : Int64).toInt = 0 := by decide
  have a := c_lsub x.toInt64 y.toInt64
  have b1 := rng32 x; have b2 := rng32 y; have b3 := rng64 (x.toInt64 - y.toInt64)
  rw [Int64.lt_iff_toInt_lt, Int32.lt_iff_toInt_lt, e0]
  rw [c_i2l, c_i2l] at a
  omega
theorem own_ef_own_rm0 (m : MethodId) (x0 : Int32) (x1 : Int32) (x2 : Int32) (x3 : Int32) (x4 : Int32) (x5 : Int32) : entryFrame m #[(.int x0), (.int x1), (.int x2), (.int x3), (.int x4), (.int x5)] maxLocals = mkF m 0 #[.val (.int x0), .val (.int x1), .val (.int x2), .val (.int x3), .val (.int x4), .val (.int x5), .unset, .unset, .unset, .unset, .unset, .unset, .unset, .unset, .unset, .unset, .unset, .unset, .unset, .unset, .unset] [] := by first | (simp [entryFrame, mkF, argsToLocals, Value.category, maxLocals]; done) | rfl
set_option maxRecDepth 65536 in
set_option maxHeartbeats 4000000 in
theorem own_t0_0 (p_1 : Int32) (p_2 : Int32) (p_3 : Int32) (p_4 : Int32) (p_5 : Int32) (p_6 : Int32) (r2 : Int32) (r4 : Int32) (r6 : Int32) (r8 : Int32) (r24 : Int32) (v25 : Int64) (v26 : Int64) (v27 : Int64) (v28 : Int64) (hr_r2 : r2 = (own_rm1_ret p_1 p_2)) (hr_r4 : r4 = (own_rm2_ret p_1 p_2)) (hr_r6 : r6 = (own_rm1_ret p_3 p_4)) (hr_r8 : r8 = (own_rm2_ret p_3 p_4)) (hr_r24 : r24 = (own_rm6_ret p_5 p_6 r2 r4 r6 r8)) (hdv25 : ((p_5.toInt64) - (r2.toInt64)) = v25) (hdv26 : ((r4.toInt64) - (p_5.toInt64)) = v26) (hdv27 : ((p_6.toInt64) - (r6.toInt64)) = v27) (hdv28 : ((r8.toInt64) - (p_6.toInt64)) = v28) (hc29 : v25 < (0 : Int64)) : r24 = (0 : Int32) := by
  subst_vars
  simp only [own_sub] at *
  grind [own_rm6_ret]
set_option maxRecDepth 65536 in
set_option maxHeartbeats 4000000 in
theorem own_t0_1 (p_1 : Int32) (p_2 : Int32) (p_3 : Int32) (p_4 : Int32) (p_5 : Int32) (p_6 : Int32) (r2 : Int32) (r4 : Int32) (r6 : Int32) (r8 : Int32) (r24 : Int32) (v25 : Int64) (v26 : Int64) (v27 : Int64) (v28 : Int64) (hr_r2 : r2 = (own_rm1_ret p_1 p_2)) (hr_r4 : r4 = (own_rm2_ret p_1 p_2)) (hr_r6 : r6 = (own_rm1_ret p_3 p_4)) (hr_r8 : r8 = (own_rm2_ret p_3 p_4)) (hr_r24 : r24 = (own_rm6_ret p_5 p_6 r2 r4 r6 r8)) (hdv25 : ((p_5.toInt64) - (r2.toInt64)) = v25) (hdv26 : ((r4.toInt64) - (p_5.toInt64)) = v26) (hdv27 : ((p_6.toInt64) - (r6.toInt64)) = v27) (hdv28 : ((r8.toInt64) - (p_6.toInt64)) = v28) (hc29 : ¬ (v25 < (0 : Int64))) (hc32 : v26 < (0 : Int64)) : r24 = (0 : Int32) := by
  subst_vars
  simp only [own_sub] at *
  grind [own_rm6_ret]
set_option maxRecDepth 65536 in
set_option maxHeartbeats 4000000 in
theorem own_t0_2 (p_1 : Int32) (p_2 : Int32) (p_3 : Int32) (p_4 : Int32) (p_5 : Int32) (p_6 : Int32) (r2 : Int32) (r4 : Int32) (r6 : Int32) (r8 : Int32) (r24 : Int32) (v25 : Int64) (v26 : Int64) (v27 : Int64) (v28 : Int64) (hr_r2 : r2 = (own_rm1_ret p_1 p_2)) (hr_r4 : r4 = (own_rm2_ret p_1 p_2)) (hr_r6 : r6 = (own_rm1_ret p_3 p_4)) (hr_r8 : r8 = (own_rm2_ret p_3 p_4)) (hr_r24 : r24 = (own_rm6_ret p_5 p_6 r2 r4 r6 r8)) (hdv25 : ((p_5.toInt64) - (r2.toInt64)) = v25) (hdv26 : ((r4.toInt64) - (p_5.toInt64)) = v26) (hdv27 : ((p_6.toInt64) - (r6.toInt64)) = v27) (hdv28 : ((r8.toInt64) - (p_6.toInt64)) = v28) (hc29 : ¬ (v25 < (0 : Int64))) (hc32 : ¬ (v26 < (0 : Int64))) (hc35 : v27 < (0 : Int64)) : r24 = (0 : Int32) := by
  subst_vars
  simp only [own_sub] at *
  grind [own_rm6_ret]
set_option maxRecDepth 65536 in
set_option maxHeartbeats 4000000 in
theorem own_t0_3 (p_1 : Int32) (p_2 : Int32) (p_3 : Int32) (p_4 : Int32) (p_5 : Int32) (p_6 : Int32) (r2 : Int32) (r4 : Int32) (r6 : Int32) (r8 : Int32) (r24 : Int32) (v25 : Int64) (v26 : Int64) (v27 : Int64) (v28 : Int64) (hr_r2 : r2 = (own_rm1_ret p_1 p_2)) (hr_r4 : r4 = (own_rm2_ret p_1 p_2)) (hr_r6 : r6 = (own_rm1_ret p_3 p_4)) (hr_r8 : r8 = (own_rm2_ret p_3 p_4)) (hr_r24 : r24 = (own_rm6_ret p_5 p_6 r2 r4 r6 r8)) (hdv25 : ((p_5.toInt64) - (r2.toInt64)) = v25) (hdv26 : ((r4.toInt64) - (p_5.toInt64)) = v26) (hdv27 : ((p_6.toInt64) - (r6.toInt64)) = v27) (hdv28 : ((r8.toInt64) - (p_6.toInt64)) = v28) (hc29 : ¬ (v25 < (0 : Int64))) (hc32 : ¬ (v26 < (0 : Int64))) (hc35 : ¬ (v27 < (0 : Int64))) (hc38 : v28 < (0 : Int64)) : r24 = (0 : Int32) := by
  subst_vars
  simp only [own_sub] at *
  grind [own_rm6_ret]
set_option maxRecDepth 65536 in
set_option maxHeartbeats 4000000 in
theorem own_t0_4 (p_1 : Int32) (p_2 : Int32) (p_3 : Int32) (p_4 : Int32) (p_5 : Int32) (p_6 : Int32) (r2 : Int32) (r4 : Int32) (r6 : Int32) (r8 : Int32) (r24 : Int32) (v25 : Int64) (v26 : Int64) (v27 : Int64) (v28 : Int64) (hr_r2 : r2 = (own_rm1_ret p_1 p_2)) (hr_r4 : r4 = (own_rm2_ret p_1 p_2)) (hr_r6 : r6 = (own_rm1_ret p_3 p_4)) (hr_r8 : r8 = (own_rm2_ret p_3 p_4)) (hr_r24 : r24 = (own_rm6_ret p_5 p_6 r2 r4 r6 r8)) (hdv25 : ((p_5.toInt64) - (r2.toInt64)) = v25) (hdv26 : ((r4.toInt64) - (p_5.toInt64)) = v26) (hdv27 : ((p_6.toInt64) - (r6.toInt64)) = v27) (hdv28 : ((r8.toInt64) - (p_6.toInt64)) = v28) (hc29 : ¬ (v25 < (0 : Int64))) (hc32 : ¬ (v26 < (0 : Int64))) (hc35 : ¬ (v27 < (0 : Int64))) (hc38 : ¬ (v28 < (0 : Int64))) : r24 = (1 : Int32) := by
  subst_vars
  simp only [own_sub] at *
  grind [own_rm6_ret]
def own_Q0 (Z : State) (p_1 : Int32) (p_2 : Int32) (p_3 : Int32) (p_4 : Int32) (p_5 : Int32) (p_6 : Int32) (h0 : Heap) (n0 : Nat) (v : Option Value) (h : Heap) (L : List Loc) : Prop := v = some (.int (1 : Int32)) ∧ Fr n0 L
set_option maxRecDepth 65536 in
set_option maxHeartbeats 40000000 in
theorem own_rm0 (l : Launch) (Z : State) (a0 : Array Value) (hw : ∀ d ∈ tables_1, d.before a0 Z = true) (ws : List Jvm.Cond) (p_1 : Int32) (p_2 : Int32) (p_3 : Int32) (p_4 : Int32) (p_5 : Int32) (p_6 : Int32) (h0 : Heap) (n0 : Nat) (Z0 : n0 ≤ h0.size) :
    MetFree l x (head1 (Jvm.Cond.code x code maxLocals ret :: ws) room_1) (fun a U => a = #[(.int p_1), (.int p_2), (.int p_3), (.int p_4), (.int p_5), (.int p_6)] ∧ Z.Warmed39 U.vm ∧ U.heap = h0) (fun _ _ _ _ _ => True) (fun _ U o U' => ∃ v L, o = .returned v ∧ own_Q0 Z p_1 p_2 p_3 p_4 p_5 p_6 h0 n0 v U'.heap L ∧ FrameEnd U o U' L 1 4) := by
  refine MetFree.of_bodySF (plainFor_of_name own_pn2) hisR ?_
  intro p e s m args below meth c s₁ Bd hml0 hP hK
  obtain ⟨rfl, hZ, hh⟩ := hP
  have hx := Bd.exec
  have hby := Bd.bytes
  have hml : c.maxLocals = 21 := hml0
  have hown : s.vm.findClass "com/example/ratebook/ratebook/CellRangeHoldsPinLaw" = some m.cls := findClass_of_methodNamed Bd.named
  have hnm := (name_of_methodNamed Bd.named Bd.method).1
  have X0 : Stand p l e room_1 s m #[(.int p_1), (.int p_2), (.int p_3), (.int p_4), (.int p_5), (.int p_6)] below meth c s₁ [] 0 0 := Stand.of_body Bd
  have e0 : s₁.heap = h0 := by rw [← hh, Bd.state]; rfl
  have N0 := Fr.nil n0
  have z0 : n0 ≤ h0.size := Z0
  show own_Go p.tables e below (fun t o => t.status = .running ∧ Ended t below o ∧ ∃ v L, o = .returned v ∧ own_Q0 Z p_1 p_2 p_3 p_4 p_5 p_6 h0 n0 v t.heap L ∧ FrameEnd s o t L 1 4) s₁ (entryFrame m #[(.int p_1), (.int p_2), (.int p_3), (.int p_4), (.int p_5), (.int p_6)] maxLocals)
  rw [own_ef_own_rm0 m p_1 p_2 p_3 p_4 p_5 p_6]
  show own_Go _ _ _ _ s₁ (mkF m 0 #[.val (.int p_1), .val (.int p_2), .val (.int p_3), .val (.int p_4), .val (.int p_5), .val (.int p_6), .unset, .unset, .unset, .unset, .unset, .unset, .unset, .unset, .unset, .unset, .unset, .unset, .unset, .unset, .unset] [])
  refine own_go (fun _ k => XS.iloadN X0.here hx rfl (hb hby at_0) rfl k) ?_
  show own_Go _ _ _ _ s₁ (mkF m 1 #[.val (.int p_1), .val (.int p_2), .val (.int p_3), .val (.int p_4), .val (.int p_5), .val (.int p_6), .unset, .unset, .unset, .unset, .unset, .unset, .unset, .unset, .unset, .unset, .unset, .unset, .unset, .unset, .unset] [(.int p_1)])
  refine own_go (fun _ k => XS.iloadN X0.here hx rfl (hb hby at_1) rfl k) ?_
  show own_Go _ _ _ _ s₁ (mkF m 2 #[.val (.int p_1), .val (.int p_2), .val (.int p_3), .val (.int p_4), .val (.int p_5), .val (.int p_6), .unset, .unset, .unset, .unset, .unset, .unset, .unset, .unset, .unset, .unset, .unset, .unset, .unset, .unset, .unset] [(.int p_2), (.int p_1)])
  obtain ⟨_, _, ⟨T1, L1, k1, n1⟩, -, X1, ⟨Lc1, hQ1, l1, y1, z1⟩, st1⟩ := Jvm.LawKit.callS X0 hx (y := (⟨"java/lang/Math", "min", "(II)I"⟩ : MethodName)) hown (mvT hZ (hw _ (List.mem_of_getElem? (i := 0) rfl))) (mvT hZ (hw _ (List.mem_of_getElem? (i := 1) rfl))) (mvT hZ (hw _ (List.mem_of_getElem? (i := 2) rfl))) (mvT hZ (hw _ (List.mem_of_getElem? (i := 3) rfl))) (by decide) (backOf (W := 0) (own_rm1 l Z a0 hw [] p_1 p_2  h0 n0 (by omega) ) hZ (hw _ (List.mem_of_getElem? (i := 3) rfl)) (hw _ (List.mem_of_getElem? (i := 2) rfl)) (by decide) (by decide)) (g := (mkF m 2 #[.val (.int p_1), .val (.int p_2), .val (.int p_3), .val (.int p_4), .val (.int p_5), .val (.int p_6), .unset, .unset, .unset, .unset, .unset, .unset, .unset, .unset, .unset, .unset, .unset, .unset, .unset, .unset, .unset] [(.int p_2), (.int p_1)])) rfl (by rw [hml]; rfl) (argsL := [(.int p_1), (.int p_2)]) (rest := []) (lenOf own_pd1 rfl) rfl (by show 2 * 0 + _ ≤ _; exact Nat.le_of_eq rfl) (hb hby at_2) (fun _ _ => ⟨rfl, e0, (by decide : 0 + 0 ≤ _), (by decide : 0 + 0 ≤ _)⟩)
  dsimp only [Pt.U, Pt.locs, Pt.cells, Pt.slots] at X1 l1 y1 z1 st1 hQ1
  subst l1 y1 z1
  obtain ⟨r2, rfl, N1q, hr_r2, e1⟩ := hQ1
  have N1 := Fr.app N0 N1q
  refine own_go (fun _ k => st1 _ k) ?_
  show own_Go _ _ _ _ T1 (mkF m 5 #[.val (.int p_1), .val (.int p_2), .val (.int p_3), .val (.int p_4), .val (.int p_5), .val (.int p_6), .unset, .unset, .unset, .unset, .unset, .unset, .unset, .unset, .unset, .unset, .unset, .unset, .unset, .unset, .unset] [(.int r2)])
  refine own_go (fun _ k => XS.istore X1.here hx rfl (hb hby at_5) rfl (l' := #[.val (.int p_1), .val (.int p_2), .val (.int p_3), .val (.int p_4), .val (.int p_5), .val (.int p_6), .val (.int r2), .unset, .unset, .unset, .unset, .unset, .unset, .unset, .unset, .unset, .unset, .unset, .unset, .unset, .unset]) rfl k) ?_
  show own_Go _ _ _ _ T1 (mkF m 7 #[.val (.int p_1), .val (.int p_2), .val (.int p_3), .val (.int p_4), .val (.int p_5), .val (.int p_6), .val (.int r2), .unset, .unset, .unset, .unset, .unset, .unset, .unset, .unset, .unset, .unset, .unset, .unset, .unset, .unset] [])
  refine own_go (fun _ k => XS.iloadN X1.here hx rfl (hb hby at_7) rfl k) ?_
  show own_Go _ _ _ _ T1 (mkF m 8 #[.val (.int p_1), .val (.int p_2), .val (.int p_3), .val (.int p_4), .val (.int p_5), .val (.int p_6), .val (.int r2), .unset, .unset, .unset, .unset, .unset, .unset, .unset, .unset, .unset, .unset, .unset, .unset, .unset, .unset] [(.int p_1)])
  refine own_go (fun _ k => XS.iloadN X1.here hx rfl (hb hby at_8) rfl k) ?_
  show own_Go _ _ _ _ T1 (mkF m 9 #[.val (.int p_1), .val (.int p_2), .val (.int p_3), .val (.int p_4), .val (.int p_5), .val (.int p_6), .val (.int r2), .unset, .unset, .unset, .unset, .unset, .unset, .unset, .unset, .unset, .unset, .unset, .unset, .unset, .unset] [(.int p_2), (.int p_1)])
  obtain ⟨_, _, ⟨T3, L3, k3, n3⟩, -, X3, ⟨Lc3, hQ3, l3, y3, z3⟩, st3⟩ := Jvm.LawKit.callS X1 hx (y := (⟨"java/lang/Math", "max", "(II)I"⟩ : MethodName)) hown (mvT hZ (hw _ (List.mem_of_getElem? (i := 4) rfl))) (mvT hZ (hw _ (List.mem_of_getElem? (i := 5) rfl))) (mvT hZ (hw _ (List.mem_of_getElem? (i := 2) rfl))) (mvT hZ (hw _ (List.mem_of_getElem? (i := 6) rfl))) (by decide) (backOf (W := 0) (own_rm2 l Z a0 hw [] p_1 p_2  h0 n0 (by omega) ) hZ (hw _ (List.mem_of_getElem? (i := 6) rfl)) (hw _ (List.mem_of_getElem? (i := 2) rfl)) (by decide) (by decide)) (g := (mkF m 9 #[.val (.int p_1), .val (.int p_2), .val (.int p_3), .val (.int p_4), .val (.int p_5), .val (.int p_6), .val (.int r2), .unset, .unset, .unset, .unset, .unset, .unset, .unset, .unset, .unset, .unset, .unset, .unset, .unset, .unset] [(.int p_2), (.int p_1)])) rfl (by rw [hml]; rfl) (argsL := [(.int p_1), (.int p_2)]) (rest := []) (lenOf own_pd1 rfl) rfl (by show 2 * 0 + _ ≤ _; exact Nat.le_of_eq rfl) (hb hby at_9) (fun _ _ => ⟨rfl, e1, (by decide : 0 + 0 ≤ _), (by decide : 0 + 0 ≤ _)⟩)
  dsimp only [Pt.U, Pt.locs, Pt.cells, Pt.slots] at X3 l3 y3 z3 st3 hQ3
  subst l3 y3 z3
  obtain ⟨r4, rfl, N3q, hr_r4, e3⟩ := hQ3
  have N3 := Fr.app N1 N3q
  refine own_go (fun _ k => st3 _ k) ?_
  show own_Go _ _ _ _ T3 (mkF m 12 #[.val (.int p_1), .val (.int p_2), .val (.int p_3), .val (.int p_4), .val (.int p_5), .val (.int p_6), .val (.int r2), .unset, .unset, .unset, .unset, .unset, .unset, .unset, .unset, .unset, .unset, .unset, .unset, .unset, .unset] [(.int r4)])
  refine own_go (fun _ k => XS.istore X3.here hx rfl (hb hby at_12) rfl (l' := #[.val (.int p_1), .val (.int p_2), .val (.int p_3), .val (.int p_4), .val (.int p_5), .val (.int p_6), .val (.int r2), .val (.int r4), .unset, .unset, .unset, .unset, .unset, .unset, .unset, .unset, .unset, .unset, .unset, .unset, .unset]) rfl k) ?_
  show own_Go _ _ _ _ T3 (mkF m 14 #[.val (.int p_1), .val (.int p_2), .val (.int p_3), .val (.int p_4), .val (.int p_5), .val (.int p_6), .val (.int r2), .val (.int r4), .unset, .unset, .unset, .unset, .unset, .unset, .unset, .unset, .unset, .unset, .unset, .unset, .unset] [])
  refine own_go (fun _ k => XS.iloadN X3.here hx rfl (hb hby at_14) rfl k) ?_
  show own_Go _ _ _ _ T3 (mkF m 15 #[.val (.int p_1), .val (.int p_2), .val (.int p_3), .val (.int p_4), .val (.int p_5), .val (.int p_6), .val (.int r2), .val (.int r4), .unset, .unset, .unset, .unset, .unset, .unset, .unset, .unset, .unset, .unset, .unset, .unset, .unset] [(.int p_3)])
  refine own_go (fun _ k => XS.iloadN X3.here hx rfl (hb hby at_15) rfl k) ?_
  show own_Go _ _ _ _ T3 (mkF m 16 #[.val (.int p_1), .val (.int p_2), .val (.int p_3), .val (.int p_4), .val (.int p_5), .val (.int p_6), .val (.int r2), .val (.int r4), .unset, .unset, .unset, .unset, .unset, .unset, .unset, .unset, .unset, .unset, .unset, .unset, .unset] [(.int p_4), (.int p_3)])
  obtain ⟨_, _, ⟨T5, L5, k5, n5⟩, -, X5, ⟨Lc5, hQ5, l5, y5, z5⟩, st5⟩ := Jvm.LawKit.callS X3 hx (y := (⟨"java/lang/Math", "min", "(II)I"⟩ : MethodName)) hown (mvT hZ (hw _ (List.mem_of_getElem? (i := 0) rfl))) (mvT hZ (hw _ (List.mem_of_getElem? (i := 1) rfl))) (mvT hZ (hw _ (List.mem_of_getElem? (i := 2) rfl))) (mvT hZ (hw _ (List.mem_of_getElem? (i := 3) rfl))) (by decide) (backOf (W := 0) (own_rm1 l Z a0 hw [] p_3 p_4  h0 n0 (by omega) ) hZ (hw _ (List.mem_of_getElem? (i := 3) rfl)) (hw _ (List.mem_of_getElem? (i := 2) rfl)) (by decide) (by decide)) (g := (mkF m 16 #[.val (.int p_1), .val (.int p_2), .val (.int p_3), .val (.int p_4), .val (.int p_5), .val (.int p_6), .val (.int r2), .val (.int r4), .unset, .unset, .unset, .unset, .unset, .unset, .unset, .unset, .unset, .unset, .unset, .unset, .unset] [(.int p_4), (.int p_3)])) rfl (by rw [hml]; rfl) (argsL := [(.int p_3), (.int p_4)]) (rest := []) (lenOf own_pd1 rfl) rfl (by show 2 * 0 + _ ≤ _; exact Nat.le_of_eq rfl) (hb hby at_16) (fun _ _ => ⟨rfl, e3, (by decide : 0 + 0 ≤ _), (by decide : 0 + 0 ≤ _)⟩)
  dsimp only [Pt.U, Pt.locs, Pt.cells, Pt.slots] at X5 l5 y5 z5 st5 hQ5
  subst l5 y5 z5
  obtain ⟨r6, rfl, N5q, hr_r6, e5⟩ := hQ5
  have N5 := Fr.app N3 N5q
  refine own_go (fun _ k => st5 _ k) ?_
  show own_Go _ _ _ _ T5 (mkF m 19 #[.val (.int p_1), .val (.int p_2), .val (.int p_3), .val (.int p_4), .val (.int p_5), .val (.int p_6), .val (.int r2), .val (.int r4), .unset, .unset, .unset, .unset, .unset, .unset, .unset, .unset, .unset, .unset, .unset, .unset, .unset] [(.int r6)])
  refine own_go (fun _ k => XS.istore X5.here hx rfl (hb hby at_19) rfl (l' := #[.val (.int p_1), .val (.int p_2), .val (.int p_3), .val (.int p_4), .val (.int p_5), .val (.int p_6), .val (.int r2), .val (.int r4), .val (.int r6), .unset, .unset, .unset, .unset, .unset, .unset, .unset, .unset, .unset, .unset, .unset, .unset]) rfl k) ?_
  show own_Go _ _ _ _ T5 (mkF m 21 #[.val (.int p_1), .val (.int p_2), .val (.int p_3), .val (.int p_4), .val (.int p_5), .val (.int p_6), .val (.int r2), .val (.int r4), .val (.int r6), .unset, .unset, .unset, .unset, .unset, .unset, .unset, .unset, .unset, .unset, .unset, .unset] [])
  refine own_go (fun _ k => XS.iloadN X5.here hx rfl (hb hby at_21) rfl k) ?_
  show own_Go _ _ _ _ T5 (mkF m 22 #[.val (.int p_1), .val (.int p_2), .val (.int p_3), .val (.int p_4), .val (.int p_5), .val (.int p_6), .val (.int r2), .val (.int r4), .val (.int r6), .unset, .unset, .unset, .unset, .unset, .unset, .unset, .unset, .unset, .unset, .unset, .unset] [(.int p_3)])
  refine own_go (fun _ k => XS.iloadN X5.here hx rfl (hb hby at_22) rfl k) ?_
  show own_Go _ _ _ _ T5 (mkF m 23 #[.val (.int p_1), .val (.int p_2), .val (.int p_3), .val (.int p_4), .val (.int p_5), .val (.int p_6), .val (.int r2), .val (.int r4), .val (.int r6), .unset, .unset, .unset, .unset, .unset, .unset, .unset, .unset, .unset, .unset, .unset, .unset] [(.int p_4), (.int p_3)])
  obtain ⟨_, _, ⟨T7, L7, k7, n7⟩, -, X7, ⟨Lc7, hQ7, l7, y7, z7⟩, st7⟩ := Jvm.LawKit.callS X5 hx (y := (⟨"java/lang/Math", "max", "(II)I"⟩ : MethodName)) hown (mvT hZ (hw _ (List.mem_of_getElem? (i := 4) rfl))) (mvT hZ (hw _ (List.mem_of_getElem? (i := 5) rfl))) (mvT hZ (hw _ (List.mem_of_getElem? (i := 2) rfl))) (mvT hZ (hw _ (List.mem_of_getElem? (i := 6) rfl))) (by decide) (backOf (W := 0) (own_rm2 l Z a0 hw [] p_3 p_4  h0 n0 (by omega) ) hZ (hw _ (List.mem_of_getElem? (i := 6) rfl)) (hw _ (List.mem_of_getElem? (i := 2) rfl)) (by decide) (by decide)) (g := (mkF m 23 #[.val (.int p_1), .val (.int p_2), .val (.int p_3), .val (.int p_4), .val (.int p_5), .val (.int p_6), .val (.int r2), .val (.int r4), .val (.int r6), .unset, .unset, .unset, .unset, .unset, .unset, .unset, .unset, .unset, .unset, .unset, .unset] [(.int p_4), (.int p_3)])) rfl (by rw [hml]; rfl) (argsL := [(.int p_3), (.int p_4)]) (rest := []) (lenOf own_pd1 rfl) rfl (by show 2 * 0 + _ ≤ _; exact Nat.le_of_eq rfl) (hb hby at_23) (fun _ _ => ⟨rfl, e5, (by decide : 0 + 0 ≤ _), (by decide : 0 + 0 ≤ _)⟩)
  dsimp only [Pt.U, Pt.locs, Pt.cells, Pt.slots] at X7 l7 y7 z7 st7 hQ7
  subst l7 y7 z7
  obtain ⟨r8, rfl, N7q, hr_r8, e7⟩ := hQ7
  have N7 := Fr.app N5 N7q
  refine own_go (fun _ k => st7 _ k) ?_
  show own_Go _ _ _ _ T7 (mkF m 26 #[.val (.int p_1), .val (.int p_2), .val (.int p_3), .val (.int p_4), .val (.int p_5), .val (.int p_6), .val (.int r2), .val (.int r4), .val (.int r6), .unset, .unset, .unset, .unset, .unset, .unset, .unset, .unset, .unset, .unset, .unset, .unset] [(.int r8)])
  refine own_go (fun _ k => XS.istore X7.here hx rfl (hb hby at_26) rfl (l' := #[.val (.int p_1), .val (.int p_2), .val (.int p_3), .val (.int p_4), .val (.int p_5), .val (.int p_6), .val (.int r2), .val (.int r4), .val (.int r6), .val (.int r8), .unset, .unset, .unset, .unset, .unset, .unset, .unset, .unset, .unset, .unset, .unset]) rfl k) ?_
  show own_Go _ _ _ _ T7 (mkF m 28 #[.val (.int p_1), .val (.int p_2), .val (.int p_3), .val (.int p_4), .val (.int p_5), .val (.int p_6), .val (.int r2), .val (.int r4), .val (.int r6), .val (.int r8), .unset, .unset, .unset, .unset, .unset, .unset, .unset, .unset, .unset, .unset, .unset] [])
  obtain ⟨T9, h9, X9, e9, E9, A9, D9, Y9, st9⟩ := newO X7 hx hZ hown (hw _ (List.mem_of_getElem? (i := 7) rfl)) (hw _ (List.mem_of_getElem? (i := 8) rfl)) (hw _ (List.mem_of_getElem? (i := 9) rfl)) e7 (g := (mkF m 28 #[.val (.int p_1), .val (.int p_2), .val (.int p_3), .val (.int p_4), .val (.int p_5), .val (.int p_6), .val (.int r2), .val (.int r4), .val (.int r6), .val (.int r8), .unset, .unset, .unset, .unset, .unset, .unset, .unset, .unset, .unset, .unset, .unset] [])) rfl (hb hby at_28) (by decide) (by decide)
  obtain ⟨b9, g9⟩ : ∃ z, z = h0.size := ⟨_, rfl⟩
  rw [← g9] at A9 D9 Y9 st9
  have z10 := E9.1
  have lt_b9 := A9.lt
  have F_firstRow_b9 : Fld Z h9 b9 "com/example/ratebook/ratebook/CellRange" "firstRow" "I" (.int (0 : Int32)) := D9 (Or.inr (hw _ (List.mem_of_getElem? (i := 22) rfl))) (ty := .int) (by decide)
  have F_firstColumn_b9 : Fld Z h9 b9 "com/example/ratebook/ratebook/CellRange" "firstColumn" "I" (.int (0 : Int32)) := D9 (Or.inr (hw _ (List.mem_of_getElem? (i := 24) rfl))) (ty := .int) (by decide)
  have F_lastRow_b9 : Fld Z h9 b9 "com/example/ratebook/ratebook/CellRange" "lastRow" "I" (.int (0 : Int32)) := D9 (Or.inr (hw _ (List.mem_of_getElem? (i := 26) rfl))) (ty := .int) (by decide)
  have F_lastColumn_b9 : Fld Z h9 b9 "com/example/ratebook/ratebook/CellRange" "lastColumn" "I" (.int (0 : Int32)) := D9 (Or.inr (hw _ (List.mem_of_getElem? (i := 28) rfl))) (ty := .int) (by decide)
  refine own_go (fun _ k => st9 _ k) ?_
  show own_Go _ _ _ _ T9 (mkF m 31 #[.val (.int p_1), .val (.int p_2), .val (.int p_3), .val (.int p_4), .val (.int p_5), .val (.int p_6), .val (.int r2), .val (.int r4), .val (.int r6), .val (.int r8), .unset, .unset, .unset, .unset, .unset, .unset, .unset, .unset, .unset, .unset, .unset] [(.ref b9)])
  refine own_go (fun _ k => XS.dup X9.here hx rfl (hb hby at_31) rfl rfl k) ?_
  show own_Go _ _ _ _ T9 (mkF m 32 #[.val (.int p_1), .val (.int p_2), .val (.int p_3), .val (.int p_4), .val (.int p_5), .val (.int p_6), .val (.int r2), .val (.int r4), .val (.int r6), .val (.int r8), .unset, .unset, .unset, .unset, .unset, .unset, .unset, .unset, .unset, .unset, .unset] [(.ref b9), (.ref b9)])
  refine own_go (fun _ k => XS.iload X9.here hx rfl (hb hby at_32) rfl k) ?_
  show own_Go _ _ _ _ T9 (mkF m 34 #[.val (.int p_1), .val (.int p_2), .val (.int p_3), .val (.int p_4), .val (.int p_5), .val (.int p_6), .val (.int r2), .val (.int r4), .val (.int r6), .val (.int r8), .unset, .unset, .unset, .unset, .unset, .unset, .unset, .unset, .unset, .unset, .unset] [(.int r2), (.ref b9), (.ref b9)])
  refine own_go (fun _ k => XS.iload X9.here hx rfl (hb hby at_34) rfl k) ?_
  show own_Go _ _ _ _ T9 (mkF m 36 #[.val (.int p_1), .val (.int p_2), .val (.int p_3), .val (.int p_4), .val (.int p_5), .val (.int p_6), .val (.int r2), .val (.int r4), .val (.int r6), .val (.int r8), .unset, .unset, .unset, .unset, .unset, .unset, .unset, .unset, .unset, .unset, .unset] [(.int r6), (.int r2), (.ref b9), (.ref b9)])
  refine own_go (fun _ k => XS.iload X9.here hx rfl (hb hby at_36) rfl k) ?_
  show own_Go _ _ _ _ T9 (mkF m 38 #[.val (.int p_1), .val (.int p_2), .val (.int p_3), .val (.int p_4), .val (.int p_5), .val (.int p_6), .val (.int r2), .val (.int r4), .val (.int r6), .val (.int r8), .unset, .unset, .unset, .unset, .unset, .unset, .unset, .unset, .unset, .unset, .unset] [(.int r4), (.int r6), (.int r2), (.ref b9), (.ref b9)])
  refine own_go (fun _ k => XS.iload X9.here hx rfl (hb hby at_38) rfl k) ?_
  show own_Go _ _ _ _ T9 (mkF m 40 #[.val (.int p_1), .val (.int p_2), .val (.int p_3), .val (.int p_4), .val (.int p_5), .val (.int p_6), .val (.int r2), .val (.int r4), .val (.int r6), .val (.int r8), .unset, .unset, .unset, .unset, .unset, .unset, .unset, .unset, .unset, .unset, .unset] [(.int r8), (.int r4), (.int r6), (.int r2), (.ref b9), (.ref b9)])
  obtain ⟨_, _, ⟨T11, L11, k11, n11⟩, -, X11, ⟨Lc11, hQ11, l11, y11, z11⟩, st11⟩ := X9.specialBack hx (y := (⟨"com/example/ratebook/ratebook/CellRange", "<init>", "(IIII)V"⟩ : MethodName)) rfl hown (mvT hZ (hw _ (List.mem_of_getElem? (i := 10) rfl))) (mvT hZ (hw _ (List.mem_of_getElem? (i := 11) rfl))) (mvT hZ (hw _ (List.mem_of_getElem? (i := 12) rfl))) (by decide) (backOf (W := 1) (own_rm3 l Z a0 hw [] b9 r2 r6 r4 r8 (0 : Int32) (0 : Int32) (0 : Int32) (0 : Int32) h9 n0 (by omega) A9 F_firstRow_b9 F_firstColumn_b9 F_lastRow_b9 F_lastColumn_b9 (by omega)) hZ (hw _ (List.mem_of_getElem? (i := 12) rfl)) (hw _ (List.mem_of_getElem? (i := 9) rfl)) (by decide) (by decide)) (g := (mkF m 40 #[.val (.int p_1), .val (.int p_2), .val (.int p_3), .val (.int p_4), .val (.int p_5), .val (.int p_6), .val (.int r2), .val (.int r4), .val (.int r6), .val (.int r8), .unset, .unset, .unset, .unset, .unset, .unset, .unset, .unset, .unset, .unset, .unset] [(.int r8), (.int r4), (.int r6), (.int r2), (.ref b9), (.ref b9)])) rfl (by rw [hml]; rfl) (Steps.refl _) (a := b9) (argsL := [(.int r2), (.int r6), (.int r4), (.int r8)]) (rest := [(.ref b9)]) (lenOf own_pd2 rfl) rfl (by show 2 * 0 + _ ≤ _; exact Nat.le_of_eq rfl) (hb hby at_40) (fun _ _ => ⟨rfl, e9, (by decide : 1 + 0 ≤ _), (by decide : 4 + 0 ≤ _)⟩)
  dsimp only [Pt.U, Pt.locs, Pt.cells, Pt.slots] at X11 l11 y11 z11 st11 hQ11
  subst l11 y11 z11
  obtain ⟨rfl, N11q, K11q, f12, f13, f14, f15, f16⟩ := hQ11
  have N11 := Fr.app N7 N11q
  have z17 := K11q.1
  have z18 := f12.lt
  have z19 := f13.lt
  have z20 := f14.lt
  have z21 := f15.lt
  have z22 := f16.lt
  refine own_go (fun _ k => st11.trans k) ?_
  show own_Go _ _ _ _ T11 (mkF m 43 #[.val (.int p_1), .val (.int p_2), .val (.int p_3), .val (.int p_4), .val (.int p_5), .val (.int p_6), .val (.int r2), .val (.int r4), .val (.int r6), .val (.int r8), .unset, .unset, .unset, .unset, .unset, .unset, .unset, .unset, .unset, .unset, .unset] [(.ref b9)])
  refine own_go (fun _ k => XS.astore X11.here hx rfl (hb hby at_43) rfl rfl (l' := #[.val (.int p_1), .val (.int p_2), .val (.int p_3), .val (.int p_4), .val (.int p_5), .val (.int p_6), .val (.int r2), .val (.int r4), .val (.int r6), .val (.int r8), .val (.ref b9), .unset, .unset, .unset, .unset, .unset, .unset, .unset, .unset, .unset, .unset]) rfl k) ?_
  show own_Go _ _ _ _ T11 (mkF m 45 #[.val (.int p_1), .val (.int p_2), .val (.int p_3), .val (.int p_4), .val (.int p_5), .val (.int p_6), .val (.int r2), .val (.int r4), .val (.int r6), .val (.int r8), .val (.ref b9), .unset, .unset, .unset, .unset, .unset, .unset, .unset, .unset, .unset, .unset] [])
  refine own_go (fun _ k => XS.aload X11.here hx rfl (hb hby at_45) rfl rfl k) ?_
  show own_Go _ _ _ _ T11 (mkF m 47 #[.val (.int p_1), .val (.int p_2), .val (.int p_3), .val (.int p_4), .val (.int p_5), .val (.int p_6), .val (.int r2), .val (.int r4), .val (.int r6), .val (.int r8), .val (.ref b9), .unset, .unset, .unset, .unset, .unset, .unset, .unset, .unset, .unset, .unset] [(.ref b9)])
  refine own_go (fun _ k => XS.iload X11.here hx rfl (hb hby at_47) rfl k) ?_
  show own_Go _ _ _ _ T11 (mkF m 49 #[.val (.int p_1), .val (.int p_2), .val (.int p_3), .val (.int p_4), .val (.int p_5), .val (.int p_6), .val (.int r2), .val (.int r4), .val (.int r6), .val (.int r8), .val (.ref b9), .unset, .unset, .unset, .unset, .unset, .unset, .unset, .unset, .unset, .unset] [(.int p_5), (.ref b9)])
  refine own_go (fun _ k => XS.iload X11.here hx rfl (hb hby at_49) rfl k) ?_
  show own_Go _ _ _ _ T11 (mkF m 51 #[.val (.int p_1), .val (.int p_2), .val (.int p_3), .val (.int p_4), .val (.int p_5), .val (.int p_6), .val (.int r2), .val (.int r4), .val (.int r6), .val (.int r8), .val (.ref b9), .unset, .unset, .unset, .unset, .unset, .unset, .unset, .unset, .unset, .unset] [(.int p_6), (.int p_5), (.ref b9)])
  obtain ⟨cq23, kq23, q23a, q23b, q23c⟩ := isOf hZ rfl f12
  obtain ⟨_, _, ⟨T23, L23, k23, n23⟩, -, X23, ⟨Lc23, hQ23, l23, y23, z23⟩, st23⟩ := X11.virtualBack hx (y := (⟨"com/example/ratebook/ratebook/CellRange", "holds", "(II)Z"⟩ : MethodName)) (z := (⟨"com/example/ratebook/ratebook/CellRange", "holds", "(II)Z"⟩ : MethodName)) hown (mvT hZ (hw _ (List.mem_of_getElem? (i := 29) rfl))) (mvT hZ (hw _ (List.mem_of_getElem? (i := 30) rfl))) (notFace_of_selects (args := #[]) (mvT hZ (hw _ (List.mem_of_getElem? (i := 32) rfl)))) (mvT hZ (hw _ (List.mem_of_getElem? (i := 32) rfl))) (mvT hZ (hw _ (List.mem_of_getElem? (i := 31) rfl))) (by decide) (backOf (W := 0) (own_rm6 l Z a0 hw [] b9 p_5 p_6 r2 r4 r6 r8 T11.heap n0 (by omega) f13 f15 f14 f16) hZ (hw _ (List.mem_of_getElem? (i := 33) rfl)) (hw _ (List.mem_of_getElem? (i := 9) rfl)) (by decide) (by decide)) q23a q23c (g := (mkF m 51 #[.val (.int p_1), .val (.int p_2), .val (.int p_3), .val (.int p_4), .val (.int p_5), .val (.int p_6), .val (.int r2), .val (.int r4), .val (.int r6), .val (.int r8), .val (.ref b9), .unset, .unset, .unset, .unset, .unset, .unset, .unset, .unset, .unset, .unset] [(.int p_6), (.int p_5), (.ref b9)])) rfl (by rw [hml]; rfl) (Steps.refl _) (argsL := [(.int p_5), (.int p_6)]) (rest := []) (lenOf own_pd3 rfl) rfl (by show 2 * 0 + _ ≤ _; exact Nat.le_of_eq rfl) (hb hby at_51) (fun _ _ => ⟨rfl, rfl, (by decide : 1 + 0 ≤ _), (by decide : 4 + 0 ≤ _)⟩)
  dsimp only [Pt.U, Pt.locs, Pt.cells, Pt.slots] at X23 l23 y23 z23 st23 hQ23
  subst l23 y23 z23
  obtain ⟨r24, rfl, N23q, hr_r24, e23⟩ := hQ23
  have N23 := Fr.app N11 N23q
  refine own_go (fun _ k => st23.trans k) ?_
  show own_Go _ _ _ _ T23 (mkF m 54 #[.val (.int p_1), .val (.int p_2), .val (.int p_3), .val (.int p_4), .val (.int p_5), .val (.int p_6), .val (.int r2), .val (.int r4), .val (.int r6), .val (.int r8), .val (.ref b9), .unset, .unset, .unset, .unset, .unset, .unset, .unset, .unset, .unset, .unset] [(.int r24)])
  refine own_go (fun _ k => XS.istore X23.here hx rfl (hb hby at_54) rfl (l' := #[.val (.int p_1), .val (.int p_2), .val (.int p_3), .val (.int p_4), .val (.int p_5), .val (.int p_6), .val (.int r2), .val (.int r4), .val (.int r6), .val (.int r8), .val (.ref b9), .val (.int r24), .unset, .unset, .unset, .unset, .unset, .unset, .unset, .unset, .unset]) rfl k) ?_
  show own_Go _ _ _ _ T23 (mkF m 56 #[.val (.int p_1), .val (.int p_2), .val (.int p_3), .val (.int p_4), .val (.int p_5), .val (.int p_6), .val (.int r2), .val (.int r4), .val (.int r6), .val (.int r8), .val (.ref b9), .val (.int r24), .unset, .unset, .unset, .unset, .unset, .unset, .unset, .unset, .unset] [])
  refine own_go (fun _ k => XS.iload X23.here hx rfl (hb hby at_56) rfl k) ?_
  show own_Go _ _ _ _ T23 (mkF m 58 #[.val (.int p_1), .val (.int p_2), .val (.int p_3), .val (.int p_4), .val (.int p_5), .val (.int p_6), .val (.int r2), .val (.int r4), .val (.int r6), .val (.int r8), .val (.ref b9), .val (.int r24), .unset, .unset, .unset, .unset, .unset, .unset, .unset, .unset, .unset] [(.int p_5)])
  refine own_go (fun _ k => XS.i2l X23.here hx rfl (hb hby at_58) rfl k) ?_
  show own_Go _ _ _ _ T23 (mkF m 59 #[.val (.int p_1), .val (.int p_2), .val (.int p_3), .val (.int p_4), .val (.int p_5), .val (.int p_6), .val (.int r2), .val (.int r4), .val (.int r6), .val (.int r8), .val (.ref b9), .val (.int r24), .unset, .unset, .unset, .unset, .unset, .unset, .unset, .unset, .unset] [(.long (p_5.toInt64))])
  refine own_go (fun _ k => XS.iload X23.here hx rfl (hb hby at_59) rfl k) ?_
  show own_Go _ _ _ _ T23 (mkF m 61 #[.val (.int p_1), .val (.int p_2), .val (.int p_3), .val (.int p_4), .val (.int p_5), .val (.int p_6), .val (.int r2), .val (.int r4), .val (.int r6), .val (.int r8), .val (.ref b9), .val (.int r24), .unset, .unset, .unset, .unset, .unset, .unset, .unset, .unset, .unset] [(.int r2), (.long (p_5.toInt64))])
  refine own_go (fun _ k => XS.i2l X23.here hx rfl (hb hby at_61) rfl k) ?_
  show own_Go _ _ _ _ T23 (mkF m 62 #[.val (.int p_1), .val (.int p_2), .val (.int p_3), .val (.int p_4), .val (.int p_5), .val (.int p_6), .val (.int r2), .val (.int r4), .val (.int r6), .val (.int r8), .val (.ref b9), .val (.int r24), .unset, .unset, .unset, .unset, .unset, .unset, .unset, .unset, .unset] [(.long (r2.toInt64)), (.long (p_5.toInt64))])
  refine own_go (fun _ k => XS.lsub X23.here hx rfl (hb hby at_62) rfl k) ?_
  show own_Go _ _ _ _ T23 (mkF m 63 #[.val (.int p_1), .val (.int p_2), .val (.int p_3), .val (.int p_4), .val (.int p_5), .val (.int p_6), .val (.int r2), .val (.int r4), .val (.int r6), .val (.int r8), .val (.ref b9), .val (.int r24), .unset, .unset, .unset, .unset, .unset, .unset, .unset, .unset, .unset] [(.long ((p_5.toInt64) - (r2.toInt64)))])
  refine own_go (fun _ k => XS.lstore X23.here hx rfl (hb hby at_63) rfl (l' := #[.val (.int p_1), .val (.int p_2), .val (.int p_3), .val (.int p_4), .val (.int p_5), .val (.int p_6), .val (.int r2), .val (.int r4), .val (.int r6), .val (.int r8), .val (.ref b9), .val (.int r24), .val (.long ((p_5.toInt64) - (r2.toInt64))), .second, .unset, .unset, .unset, .unset, .unset, .unset, .unset]) rfl k) ?_
  show own_Go _ _ _ _ T23 (mkF m 65 #[.val (.int p_1), .val (.int p_2), .val (.int p_3), .val (.int p_4), .val (.int p_5), .val (.int p_6), .val (.int r2), .val (.int r4), .val (.int r6), .val (.int r8), .val (.ref b9), .val (.int r24), .val (.long ((p_5.toInt64) - (r2.toInt64))), .second, .unset, .unset, .unset, .unset, .unset, .unset, .unset] [])
  generalize hdv25 : ((p_5.toInt64) - (r2.toInt64)) = v25
  show own_Go _ _ _ _ T23 (mkF m 65 #[.val (.int p_1), .val (.int p_2), .val (.int p_3), .val (.int p_4), .val (.int p_5), .val (.int p_6), .val (.int r2), .val (.int r4), .val (.int r6), .val (.int r8), .val (.ref b9), .val (.int r24), .val (.long v25), .second, .unset, .unset, .unset, .unset, .unset, .unset, .unset] [])
  refine own_go (fun _ k => XS.iload X23.here hx rfl (hb hby at_65) rfl k) ?_
  show own_Go _ _ _ _ T23 (mkF m 67 #[.val (.int p_1), .val (.int p_2), .val (.int p_3), .val (.int p_4), .val (.int p_5), .val (.int p_6), .val (.int r2), .val (.int r4), .val (.int r6), .val (.int r8), .val (.ref b9), .val (.int r24), .val (.long v25), .second, .unset, .unset, .unset, .unset, .unset, .unset, .unset] [(.int r4)])
  refine own_go (fun _ k => XS.i2l X23.here hx rfl (hb hby at_67) rfl k) ?_
  show own_Go _ _ _ _ T23 (mkF m 68 #[.val (.int p_1), .val (.int p_2), .val (.int p_3), .val (.int p_4), .val (.int p_5), .val (.int p_6), .val (.int r2), .val (.int r4), .val (.int r6), .val (.int r8), .val (.ref b9), .val (.int r24), .val (.long v25), .second, .unset, .unset, .unset, .unset, .unset, .unset, .unset] [(.long (r4.toInt64))])
  refine own_go (fun _ k => XS.iload X23.here hx rfl (hb hby at_68) rfl k) ?_
  show own_Go _ _ _ _ T23 (mkF m 70 #[.val (.int p_1), .val (.int p_2), .val (.int p_3), .val (.int p_4), .val (.int p_5), .val (.int p_6), .val (.int r2), .val (.int r4), .val (.int r6), .val (.int r8), .val (.ref b9), .val (.int r24), .val (.long v25), .second, .unset, .unset, .unset, .unset, .unset, .unset, .unset] [(.int p_5), (.long (r4.toInt64))])
  refine own_go (fun _ k => XS.i2l X23.here hx rfl (hb hby at_70) rfl k) ?_
  show own_Go _ _ _ _ T23 (mkF m 71 #[.val (.int p_1), .val (.int p_2), .val (.int p_3), .val (.int p_4), .val (.int p_5), .val (.int p_6), .val (.int r2), .val (.int r4), .val (.int r6), .val (.int r8), .val (.ref b9), .val (.int r24), .val (.long v25), .second, .unset, .unset, .unset, .unset, .unset, .unset, .unset] [(.long (p_5.toInt64)), (.long (r4.toInt64))])
  refine own_go (fun _ k => XS.lsub X23.here hx rfl (hb hby at_71) rfl k) ?_
  show own_Go _ _ _ _ T23 (mkF m 72 #[.val (.int p_1), .val (.int p_2), .val (.int p_3), .val (.int p_4), .val (.int p_5), .val (.int p_6), .val (.int r2), .val (.int r4), .val (.int r6), .val (.int r8), .val (.ref b9), .val (.int r24), .val (.long v25), .second, .unset, .unset, .unset, .unset, .unset, .unset, .unset] [(.long ((r4.toInt64) - (p_5.toInt64)))])
  refine own_go (fun _ k => XS.lstore X23.here hx rfl (hb hby at_72) rfl (l' := #[.val (.int p_1), .val (.int p_2), .val (.int p_3), .val (.int p_4), .val (.int p_5), .val (.int p_6), .val (.int r2), .val (.int r4), .val (.int r6), .val (.int r8), .val (.ref b9), .val (.int r24), .val (.long v25), .second, .val (.long ((r4.toInt64) - (p_5.toInt64))), .second, .unset, .unset, .unset, .unset, .unset]) rfl k) ?_
  show own_Go _ _ _ _ T23 (mkF m 74 #[.val (.int p_1), .val (.int p_2), .val (.int p_3), .val (.int p_4), .val (.int p_5), .val (.int p_6), .val (.int r2), .val (.int r4), .val (.int r6), .val (.int r8), .val (.ref b9), .val (.int r24), .val (.long v25), .second, .val (.long ((r4.toInt64) - (p_5.toInt64))), .second, .unset, .unset, .unset, .unset, .unset] [])
  generalize hdv26 : ((r4.toInt64) - (p_5.toInt64)) = v26
  show own_Go _ _ _ _ T23 (mkF m 74 #[.val (.int p_1), .val (.int p_2), .val (.int p_3), .val (.int p_4), .val (.int p_5), .val (.int p_6), .val (.int r2), .val (.int r4), .val (.int r6), .val (.int r8), .val (.ref b9), .val (.int r24), .val (.long v25), .second, .val (.long v26), .second, .unset, .unset, .unset, .unset, .unset] [])
  refine own_go (fun _ k => XS.iload X23.here hx rfl (hb hby at_74) rfl k) ?_
  show own_Go _ _ _ _ T23 (mkF m 76 #[.val (.int p_1), .val (.int p_2), .val (.int p_3), .val (.int p_4), .val (.int p_5), .val (.int p_6), .val (.int r2), .val (.int r4), .val (.int r6), .val (.int r8), .val (.ref b9), .val (.int r24), .val (.long v25), .second, .val (.long v26), .second, .unset, .unset, .unset, .unset, .unset] [(.int p_6)])
  refine own_go (fun _ k => XS.i2l X23.here hx rfl (hb hby at_76) rfl k) ?_
  show own_Go _ _ _ _ T23 (mkF m 77 #[.val (.int p_1), .val (.int p_2), .val (.int p_3), .val (.int p_4), .val (.int p_5), .val (.int p_6), .val (.int r2), .val (.int r4), .val (.int r6), .val (.int r8), .val (.ref b9), .val (.int r24), .val (.long v25), .second, .val (.long v26), .second, .unset, .unset, .unset, .unset, .unset] [(.long (p_6.toInt64))])
  refine own_go (fun _ k => XS.iload X23.here hx rfl (hb hby at_77) rfl k) ?_
  show own_Go _ _ _ _ T23 (mkF m 79 #[.val (.int p_1), .val (.int p_2), .val (.int p_3), .val (.int p_4), .val (.int p_5), .val (.int p_6), .val (.int r2), .val (.int r4), .val (.int r6), .val (.int r8), .val (.ref b9), .val (.int r24), .val (.long v25), .second, .val (.long v26), .second, .unset, .unset, .unset, .unset, .unset] [(.int r6), (.long (p_6.toInt64))])
  refine own_go (fun _ k => XS.i2l X23.here hx rfl (hb hby at_79) rfl k) ?_
  show own_Go _ _ _ _ T23 (mkF m 80 #[.val (.int p_1), .val (.int p_2), .val (.int p_3), .val (.int p_4), .val (.int p_5), .val (.int p_6), .val (.int r2), .val (.int r4), .val (.int r6), .val (.int r8), .val (.ref b9), .val (.int r24), .val (.long v25), .second, .val (.long v26), .second, .unset, .unset, .unset, .unset, .unset] [(.long (r6.toInt64)), (.long (p_6.toInt64))])
  refine own_go (fun _ k => XS.lsub X23.here hx rfl (hb hby at_80) rfl k) ?_
  show own_Go _ _ _ _ T23 (mkF m 81 #[.val (.int p_1), .val (.int p_2), .val (.int p_3), .val (.int p_4), .val (.int p_5), .val (.int p_6), .val (.int r2), .val (.int r4), .val (.int r6), .val (.int r8), .val (.ref b9), .val (.int r24), .val (.long v25), .second, .val (.long v26), .second, .unset, .unset, .unset, .unset, .unset] [(.long ((p_6.toInt64) - (r6.toInt64)))])
  refine own_go (fun _ k => XS.lstore X23.here hx rfl (hb hby at_81) rfl (l' := #[.val (.int p_1), .val (.int p_2), .val (.int p_3), .val (.int p_4), .val (.int p_5), .val (.int p_6), .val (.int r2), .val (.int r4), .val (.int r6), .val (.int r8), .val (.ref b9), .val (.int r24), .val (.long v25), .second, .val (.long v26), .second, .val (.long ((p_6.toInt64) - (r6.toInt64))), .second, .unset, .unset, .unset]) rfl k) ?_
  show own_Go _ _ _ _ T23 (mkF m 83 #[.val (.int p_1), .val (.int p_2), .val (.int p_3), .val (.int p_4), .val (.int p_5), .val (.int p_6), .val (.int r2), .val (.int r4), .val (.int r6), .val (.int r8), .val (.ref b9), .val (.int r24), .val (.long v25), .second, .val (.long v26), .second, .val (.long ((p_6.toInt64) - (r6.toInt64))), .second, .unset, .unset, .unset] [])
  generalize hdv27 : ((p_6.toInt64) - (r6.toInt64)) = v27
  show own_Go _ _ _ _ T23 (mkF m 83 #[.val (.int p_1), .val (.int p_2), .val (.int p_3), .val (.int p_4), .val (.int p_5), .val (.int p_6), .val (.int r2), .val (.int r4), .val (.int r6), .val (.int r8), .val (.ref b9), .val (.int r24), .val (.long v25), .second, .val (.long v26), .second, .val (.long v27), .second, .unset, .unset, .unset] [])
  refine own_go (fun _ k => XS.iload X23.here hx rfl (hb hby at_83) rfl k) ?_
  show own_Go _ _ _ _ T23 (mkF m 85 #[.val (.int p_1), .val (.int p_2), .val (.int p_3), .val (.int p_4), .val (.int p_5), .val (.int p_6), .val (.int r2), .val (.int r4), .val (.int r6), .val (.int r8), .val (.ref b9), .val (.int r24), .val (.long v25), .second, .val (.long v26), .second, .val (.long v27), .second, .unset, .unset, .unset] [(.int r8)])
  refine own_go (fun _ k => XS.i2l X23.here hx rfl (hb hby at_85) rfl k) ?_
  show own_Go _ _ _ _ T23 (mkF m 86 #[.val (.int p_1), .val (.int p_2), .val (.int p_3), .val (.int p_4), .val (.int p_5), .val (.int p_6), .val (.int r2), .val (.int r4), .val (.int r6), .val (.int r8), .val (.ref b9), .val (.int r24), .val (.long v25), .second, .val (.long v26), .second, .val (.long v27), .second, .unset, .unset, .unset] [(.long (r8.toInt64))])
  refine own_go (fun _ k => XS.iload X23.here hx rfl (hb hby at_86) rfl k) ?_
  show own_Go _ _ _ _ T23 (mkF m 88 #[.val (.int p_1), .val (.int p_2), .val (.int p_3), .val (.int p_4), .val (.int p_5), .val (.int p_6), .val (.int r2), .val (.int r4), .val (.int r6), .val (.int r8), .val (.ref b9), .val (.int r24), .val (.long v25), .second, .val (.long v26), .second, .val (.long v27), .second, .unset, .unset, .unset] [(.int p_6), (.long (r8.toInt64))])
  refine own_go (fun _ k => XS.i2l X23.here hx rfl (hb hby at_88) rfl k) ?_
  show own_Go _ _ _ _ T23 (mkF m 89 #[.val (.int p_1), .val (.int p_2), .val (.int p_3), .val (.int p_4), .val (.int p_5), .val (.int p_6), .val (.int r2), .val (.int r4), .val (.int r6), .val (.int r8), .val (.ref b9), .val (.int r24), .val (.long v25), .second, .val (.long v26), .second, .val (.long v27), .second, .unset, .unset, .unset] [(.long (p_6.toInt64)), (.long (r8.toInt64))])
  refine own_go (fun _ k => XS.lsub X23.here hx rfl (hb hby at_89) rfl k) ?_
  show own_Go _ _ _ _ T23 (mkF m 90 #[.val (.int p_1), .val (.int p_2), .val (.int p_3), .val (.int p_4), .val (.int p_5), .val (.int p_6), .val (.int r2), .val (.int r4), .val (.int r6), .val (.int r8), .val (.ref b9), .val (.int r24), .val (.long v25), .second, .val (.long v26), .second, .val (.long v27), .second, .unset, .unset, .unset] [(.long ((r8.toInt64) - (p_6.toInt64)))])
  refine own_go (fun _ k => XS.lstore X23.here hx rfl (hb hby at_90) rfl (l' := #[.val (.int p_1), .val (.int p_2), .val (.int p_3), .val (.int p_4), .val (.int p_5), .val (.int p_6), .val (.int r2), .val (.int r4), .val (.int r6), .val (.int r8), .val (.ref b9), .val (.int r24), .val (.long v25), .second, .val (.long v26), .second, .val (.long v27), .second, .val (.long ((r8.toInt64) - (p_6.toInt64))), .second, .unset]) rfl k) ?_
  show own_Go _ _ _ _ T23 (mkF m 92 #[.val (.int p_1), .val (.int p_2), .val (.int p_3), .val (.int p_4), .val (.int p_5), .val (.int p_6), .val (.int r2), .val (.int r4), .val (.int r6), .val (.int r8), .val (.ref b9), .val (.int r24), .val (.long v25), .second, .val (.long v26), .second, .val (.long v27), .second, .val (.long ((r8.toInt64) - (p_6.toInt64))), .second, .unset] [])
  generalize hdv28 : ((r8.toInt64) - (p_6.toInt64)) = v28
  show own_Go _ _ _ _ T23 (mkF m 92 #[.val (.int p_1), .val (.int p_2), .val (.int p_3), .val (.int p_4), .val (.int p_5), .val (.int p_6), .val (.int r2), .val (.int r4), .val (.int r6), .val (.int r8), .val (.ref b9), .val (.int r24), .val (.long v25), .second, .val (.long v26), .second, .val (.long v27), .second, .val (.long v28), .second, .unset] [])
  refine own_go (fun _ k => XS.lload X23.here hx rfl (hb hby at_92) rfl k) ?_
  show own_Go _ _ _ _ T23 (mkF m 94 #[.val (.int p_1), .val (.int p_2), .val (.int p_3), .val (.int p_4), .val (.int p_5), .val (.int p_6), .val (.int r2), .val (.int r4), .val (.int r6), .val (.int r8), .val (.ref b9), .val (.int r24), .val (.long v25), .second, .val (.long v26), .second, .val (.long v27), .second, .val (.long v28), .second, .unset] [(.long v25)])
  refine own_go (fun _ k => XS.lconst X23.here hx rfl (hb hby at_94) k) ?_
  show own_Go _ _ _ _ T23 (mkF m 95 #[.val (.int p_1), .val (.int p_2), .val (.int p_3), .val (.int p_4), .val (.int p_5), .val (.int p_6), .val (.int r2), .val (.int r4), .val (.int r6), .val (.int r8), .val (.ref b9), .val (.int r24), .val (.long v25), .second, .val (.long v26), .second, .val (.long v27), .second, .val (.long v28), .second, .unset] [(.long (0 : Int64)), (.long v25)])
  refine own_go (fun _ k => XS.lcmp X23.here hx rfl (hb hby at_95) rfl k) ?_
  show own_Go _ _ _ _ T23 (mkF m 96 #[.val (.int p_1), .val (.int p_2), .val (.int p_3), .val (.int p_4), .val (.int p_5), .val (.int p_6), .val (.int r2), .val (.int r4), .val (.int r6), .val (.int r8), .val (.ref b9), .val (.int r24), .val (.long v25), .second, .val (.long v26), .second, .val (.long v27), .second, .val (.long v28), .second, .unset] [(.int (lcmpW v25 (0 : Int64)))])
  by_cases hc29 : v25 < (0 : Int64)
  · refine own_go (fun _ k => XS.ifYes X23.here hx rfl (pc0 := 96) (pc' := 124) rfl (hb hby at_96) rfl (Jvm.Free.XT.ll_lt_t hc29) (by decide) (by decide) k) ?_
    show own_Go _ _ _ _ T23 (mkF m 124 #[.val (.int p_1), .val (.int p_2), .val (.int p_3), .val (.int p_4), .val (.int p_5), .val (.int p_6), .val (.int r2), .val (.int r4), .val (.int r6), .val (.int r8), .val (.ref b9), .val (.int r24), .val (.long v25), .second, .val (.long v26), .second, .val (.long v27), .second, .val (.long v28), .second, .unset] [])
    refine own_go (fun _ k => XS.iconst X23.here hx rfl (hb hby at_124) k) ?_
    show own_Go _ _ _ _ T23 (mkF m 125 #[.val (.int p_1), .val (.int p_2), .val (.int p_3), .val (.int p_4), .val (.int p_5), .val (.int p_6), .val (.int r2), .val (.int r4), .val (.int r6), .val (.int r8), .val (.ref b9), .val (.int r24), .val (.long v25), .second, .val (.long v26), .second, .val (.long v27), .second, .val (.long v28), .second, .unset] [(.int (0 : Int32))])
    refine own_go (fun _ k => XS.istore X23.here hx rfl (hb hby at_125) rfl (l' := #[.val (.int p_1), .val (.int p_2), .val (.int p_3), .val (.int p_4), .val (.int p_5), .val (.int p_6), .val (.int r2), .val (.int r4), .val (.int r6), .val (.int r8), .val (.ref b9), .val (.int r24), .val (.long v25), .second, .val (.long v26), .second, .val (.long v27), .second, .val (.long v28), .second, .val (.int (0 : Int32))]) rfl k) ?_
    show own_Go _ _ _ _ T23 (mkF m 127 #[.val (.int p_1), .val (.int p_2), .val (.int p_3), .val (.int p_4), .val (.int p_5), .val (.int p_6), .val (.int r2), .val (.int r4), .val (.int r6), .val (.int r8), .val (.ref b9), .val (.int r24), .val (.long v25), .second, .val (.long v26), .second, .val (.long v27), .second, .val (.long v28), .second, .val (.int (0 : Int32))] [])
    refine own_go (fun _ k => XS.iload X23.here hx rfl (hb hby at_127) rfl k) ?_
    show own_Go _ _ _ _ T23 (mkF m 129 #[.val (.int p_1), .val (.int p_2), .val (.int p_3), .val (.int p_4), .val (.int p_5), .val (.int p_6), .val (.int r2), .val (.int r4), .val (.int r6), .val (.int r8), .val (.ref b9), .val (.int r24), .val (.long v25), .second, .val (.long v26), .second, .val (.long v27), .second, .val (.long v28), .second, .val (.int (0 : Int32))] [(.int r24)])
    refine own_go (fun _ k => XS.iload X23.here hx rfl (hb hby at_129) rfl k) ?_
    show own_Go _ _ _ _ T23 (mkF m 131 #[.val (.int p_1), .val (.int p_2), .val (.int p_3), .val (.int p_4), .val (.int p_5), .val (.int p_6), .val (.int r2), .val (.int r4), .val (.int r6), .val (.int r8), .val (.ref b9), .val (.int r24), .val (.long v25), .second, .val (.long v26), .second, .val (.long v27), .second, .val (.long v28), .second, .val (.int (0 : Int32))] [(.int (0 : Int32)), (.int r24)])
    have hc30 : r24 = (0 : Int32) := own_t0_0 p_1 p_2 p_3 p_4 p_5 p_6 r2 r4 r6 r8 r24 v25 v26 v27 v28 hr_r2 hr_r4 hr_r6 hr_r8 hr_r24 hdv25 hdv26 hdv27 hdv28 hc29
    refine own_go (fun _ k => XS.icmpNo X23.here hx rfl (hb hby at_131) rfl (Jvm.Free.XT.ii_ne_f hc30) k) ?_
    show own_Go _ _ _ _ T23 (mkF m 134 #[.val (.int p_1), .val (.int p_2), .val (.int p_3), .val (.int p_4), .val (.int p_5), .val (.int p_6), .val (.int r2), .val (.int r4), .val (.int r6), .val (.int r8), .val (.ref b9), .val (.int r24), .val (.long v25), .second, .val (.long v26), .second, .val (.long v27), .second, .val (.long v28), .second, .val (.int (0 : Int32))] [])
    refine own_go (fun _ k => XS.iconst X23.here hx rfl (hb hby at_134) k) ?_
    show own_Go _ _ _ _ T23 (mkF m 135 #[.val (.int p_1), .val (.int p_2), .val (.int p_3), .val (.int p_4), .val (.int p_5), .val (.int p_6), .val (.int r2), .val (.int r4), .val (.int r6), .val (.int r8), .val (.ref b9), .val (.int r24), .val (.long v25), .second, .val (.long v26), .second, .val (.long v27), .second, .val (.long v28), .second, .val (.int (0 : Int32))] [(.int (1 : Int32))])
    refine own_go (fun _ k => XS.goto X23.here hx rfl (pc0 := 135) (pc' := 139) rfl (hb hby at_135) (by decide) (by decide) k) ?_
    show own_Go _ _ _ _ T23 (mkF m 139 #[.val (.int p_1), .val (.int p_2), .val (.int p_3), .val (.int p_4), .val (.int p_5), .val (.int p_6), .val (.int r2), .val (.int r4), .val (.int r6), .val (.int r8), .val (.ref b9), .val (.int r24), .val (.long v25), .second, .val (.long v26), .second, .val (.long v27), .second, .val (.long v28), .second, .val (.int (0 : Int32))] [(.int (1 : Int32))])
    obtain ⟨fs, hr, hrun, hended, hW, hsame⟩ := X23.leave (v := some (.int (1 : Int32))) (fun h => by rw [Bd.returns] at h; cases h)
    refine ⟨_, _, retOut X23 hx Bd.returns rfl (Or.inl ⟨rfl, Or.inr (Or.inl rfl), _, rfl⟩) (hb hby at_139) hr, hrun, hended, _, _, rfl, ?_, ⟨_, rfl⟩, hW, hsame.mono (by decide) (by decide)⟩
    show own_Q0 Z p_1 p_2 p_3 p_4 p_5 p_6 h0 n0 _ T23.heap _
    rw [e23]
    exact ⟨rfl, N23⟩
  · refine own_go (fun _ k => XS.ifNo X23.here hx rfl (hb hby at_96) rfl (Jvm.Free.XT.ll_lt_f hc29) k) ?_
    show own_Go _ _ _ _ T23 (mkF m 99 #[.val (.int p_1), .val (.int p_2), .val (.int p_3), .val (.int p_4), .val (.int p_5), .val (.int p_6), .val (.int r2), .val (.int r4), .val (.int r6), .val (.int r8), .val (.ref b9), .val (.int r24), .val (.long v25), .second, .val (.long v26), .second, .val (.long v27), .second, .val (.long v28), .second, .unset] [])
    refine own_go (fun _ k => XS.lload X23.here hx rfl (hb hby at_99) rfl k) ?_
    show own_Go _ _ _ _ T23 (mkF m 101 #[.val (.int p_1), .val (.int p_2), .val (.int p_3), .val (.int p_4), .val (.int p_5), .val (.int p_6), .val (.int r2), .val (.int r4), .val (.int r6), .val (.int r8), .val (.ref b9), .val (.int r24), .val (.long v25), .second, .val (.long v26), .second, .val (.long v27), .second, .val (.long v28), .second, .unset] [(.long v26)])
    refine own_go (fun _ k => XS.lconst X23.here hx rfl (hb hby at_101) k) ?_
    show own_Go _ _ _ _ T23 (mkF m 102 #[.val (.int p_1), .val (.int p_2), .val (.int p_3), .val (.int p_4), .val (.int p_5), .val (.int p_6), .val (.int r2), .val (.int r4), .val (.int r6), .val (.int r8), .val (.ref b9), .val (.int r24), .val (.long v25), .second, .val (.long v26), .second, .val (.long v27), .second, .val (.long v28), .second, .unset] [(.long (0 : Int64)), (.long v26)])
    refine own_go (fun _ k => XS.lcmp X23.here hx rfl (hb hby at_102) rfl k) ?_
    show own_Go _ _ _ _ T23 (mkF m 103 #[.val (.int p_1), .val (.int p_2), .val (.int p_3), .val (.int p_4), .val (.int p_5), .val (.int p_6), .val (.int r2), .val (.int r4), .val (.int r6), .val (.int r8), .val (.ref b9), .val (.int r24), .val (.long v25), .second, .val (.long v26), .second, .val (.long v27), .second, .val (.long v28), .second, .unset] [(.int (lcmpW v26 (0 : Int64)))])
    by_cases hc32 : v26 < (0 : Int64)
    · refine own_go (fun _ k => XS.ifYes X23.here hx rfl (pc0 := 103) (pc' := 124) rfl (hb hby at_103) rfl (Jvm.Free.XT.ll_lt_t hc32) (by decide) (by decide) k) ?_
      show own_Go _ _ _ _ T23 (mkF m 124 #[.val (.int p_1), .val (.int p_2), .val (.int p_3), .val (.int p_4), .val (.int p_5), .val (.int p_6), .val (.int r2), .val (.int r4), .val (.int r6), .val (.int r8), .val (.ref b9), .val (.int r24), .val (.long v25), .second, .val (.long v26), .second, .val (.long v27), .second, .val (.long v28), .second, .unset] [])
      refine own_go (fun _ k => XS.iconst X23.here hx rfl (hb hby at_124) k) ?_
      show own_Go _ _ _ _ T23 (mkF m 125 #[.val (.int p_1), .val (.int p_2), .val (.int p_3), .val (.int p_4), .val (.int p_5), .val (.int p_6), .val (.int r2), .val (.int r4), .val (.int r6), .val (.int r8), .val (.ref b9), .val (.int r24), .val (.long v25), .second, .val (.long v26), .second, .val (.long v27), .second, .val (.long v28), .second, .unset] [(.int (0 : Int32))])
      refine own_go (fun _ k => XS.istore X23.here hx rfl (hb hby at_125) rfl (l' := #[.val (.int p_1), .val (.int p_2), .val (.int p_3), .val (.int p_4), .val (.int p_5), .val (.int p_6), .val (.int r2), .val (.int r4), .val (.int r6), .val (.int r8), .val (.ref b9), .val (.int r24), .val (.long v25), .second, .val (.long v26), .second, .val (.long v27), .second, .val (.long v28), .second, .val (.int (0 : Int32))]) rfl k) ?_
      show own_Go _ _ _ _ T23 (mkF m 127 #[.val (.int p_1), .val (.int p_2), .val (.int p_3), .val (.int p_4), .val (.int p_5), .val (.int p_6), .val (.int r2), .val (.int r4), .val (.int r6), .val (.int r8), .val (.ref b9), .val (.int r24), .val (.long v25), .second, .val (.long v26), .second, .val (.long v27), .second, .val (.long v28), .second, .val (.int (0 : Int32))] [])
      refine own_go (fun _ k => XS.iload X23.here hx rfl (hb hby at_127) rfl k) ?_
      show own_Go _ _ _ _ T23 (mkF m 129 #[.val (.int p_1), .val (.int p_2), .val (.int p_3), .val (.int p_4), .val (.int p_5), .val (.int p_6), .val (.int r2), .val (.int r4), .val (.int r6), .val (.int r8), .val (.ref b9), .val (.int r24), .val (.long v25), .second, .val (.long v26), .second, .val (.long v27), .second, .val (.long v28), .second, .val (.int (0 : Int32))] [(.int r24)])
      refine own_go (fun _ k => XS.iload X23.here hx rfl (hb hby at_129) rfl k) ?_
      show own_Go _ _ _ _ T23 (mkF m 131 #[.val (.int p_1), .val (.int p_2), .val (.int p_3), .val (.int p_4), .val (.int p_5), .val (.int p_6), .val (.int r2), .val (.int r4), .val (.int r6), .val (.int r8), .val (.ref b9), .val (.int r24), .val (.long v25), .second, .val (.long v26), .second, .val (.long v27), .second, .val (.long v28), .second, .val (.int (0 : Int32))] [(.int (0 : Int32)), (.int r24)])
      have hc33 : r24 = (0 : Int32) := own_t0_1 p_1 p_2 p_3 p_4 p_5 p_6 r2 r4 r6 r8 r24 v25 v26 v27 v28 hr_r2 hr_r4 hr_r6 hr_r8 hr_r24 hdv25 hdv26 hdv27 hdv28 hc29 hc32
      refine own_go (fun _ k => XS.icmpNo X23.here hx rfl (hb hby at_131) rfl (Jvm.Free.XT.ii_ne_f hc33) k) ?_
      show own_Go _ _ _ _ T23 (mkF m 134 #[.val (.int p_1), .val (.int p_2), .val (.int p_3), .val (.int p_4), .val (.int p_5), .val (.int p_6), .val (.int r2), .val (.int r4), .val (.int r6), .val (.int r8), .val (.ref b9), .val (.int r24), .val (.long v25), .second, .val (.long v26), .second, .val (.long v27), .second, .val (.long v28), .second, .val (.int (0 : Int32))] [])
      refine own_go (fun _ k => XS.iconst X23.here hx rfl (hb hby at_134) k) ?_
      show own_Go _ _ _ _ T23 (mkF m 135 #[.val (.int p_1), .val (.int p_2), .val (.int p_3), .val (.int p_4), .val (.int p_5), .val (.int p_6), .val (.int r2), .val (.int r4), .val (.int r6), .val (.int r8), .val (.ref b9), .val (.int r24), .val (.long v25), .second, .val (.long v26), .second, .val (.long v27), .second, .val (.long v28), .second, .val (.int (0 : Int32))] [(.int (1 : Int32))])
      refine own_go (fun _ k => XS.goto X23.here hx rfl (pc0 := 135) (pc' := 139) rfl (hb hby at_135) (by decide) (by decide) k) ?_
      show own_Go _ _ _ _ T23 (mkF m 139 #[.val (.int p_1), .val (.int p_2), .val (.int p_3), .val (.int p_4), .val (.int p_5), .val (.int p_6), .val (.int r2), .val (.int r4), .val (.int r6), .val (.int r8), .val (.ref b9), .val (.int r24), .val (.long v25), .second, .val (.long v26), .second, .val (.long v27), .second, .val (.long v28), .second, .val (.int (0 : Int32))] [(.int (1 : Int32))])
      obtain ⟨fs, hr, hrun, hended, hW, hsame⟩ := X23.leave (v := some (.int (1 : Int32))) (fun h => by rw [Bd.returns] at h; cases h)
      refine ⟨_, _, retOut X23 hx Bd.returns rfl (Or.inl ⟨rfl, Or.inr (Or.inl rfl), _, rfl⟩) (hb hby at_139) hr, hrun, hended, _, _, rfl, ?_, ⟨_, rfl⟩, hW, hsame.mono (by decide) (by decide)⟩
      show own_Q0 Z p_1 p_2 p_3 p_4 p_5 p_6 h0 n0 _ T23.heap _
      rw [e23]
      exact ⟨rfl, N23⟩
    · refine own_go (fun _ k => XS.ifNo X23.here hx rfl (hb hby at_103) rfl (Jvm.Free.XT.ll_lt_f hc32) k) ?_
      show own_Go _ _ _ _ T23 (mkF m 106 #[.val (.int p_1), .val (.int p_2), .val (.int p_3), .val (.int p_4), .val (.int p_5), .val (.int p_6), .val (.int r2), .val (.int r4), .val (.int r6), .val (.int r8), .val (.ref b9), .val (.int r24), .val (.long v25), .second, .val (.long v26), .second, .val (.long v27), .second, .val (.long v28), .second, .unset] [])
      refine own_go (fun _ k => XS.lload X23.here hx rfl (hb hby at_106) rfl k) ?_
      show own_Go _ _ _ _ T23 (mkF m 108 #[.val (.int p_1), .val (.int p_2), .val (.int p_3), .val (.int p_4), .val (.int p_5), .val (.int p_6), .val (.int r2), .val (.int r4), .val (.int r6), .val (.int r8), .val (.ref b9), .val (.int r24), .val (.long v25), .second, .val (.long v26), .second, .val (.long v27), .second, .val (.long v28), .second, .unset] [(.long v27)])
      refine own_go (fun _ k => XS.lconst X23.here hx rfl (hb hby at_108) k) ?_
      show own_Go _ _ _ _ T23 (mkF m 109 #[.val (.int p_1), .val (.int p_2), .val (.int p_3), .val (.int p_4), .val (.int p_5), .val (.int p_6), .val (.int r2), .val (.int r4), .val (.int r6), .val (.int r8), .val (.ref b9), .val (.int r24), .val (.long v25), .second, .val (.long v26), .second, .val (.long v27), .second, .val (.long v28), .second, .unset] [(.long (0 : Int64)), (.long v27)])
      refine own_go (fun _ k => XS.lcmp X23.here hx rfl (hb hby at_109) rfl k) ?_
      show own_Go _ _ _ _ T23 (mkF m 110 #[.val (.int p_1), .val (.int p_2), .val (.int p_3), .val (.int p_4), .val (.int p_5), .val (.int p_6), .val (.int r2), .val (.int r4), .val (.int r6), .val (.int r8), .val (.ref b9), .val (.int r24), .val (.long v25), .second, .val (.long v26), .second, .val (.long v27), .second, .val (.long v28), .second, .unset] [(.int (lcmpW v27 (0 : Int64)))])
      by_cases hc35 : v27 < (0 : Int64)
      · refine own_go (fun _ k => XS.ifYes X23.here hx rfl (pc0 := 110) (pc' := 124) rfl (hb hby at_110) rfl (Jvm.Free.XT.ll_lt_t hc35) (by decide) (by decide) k) ?_
        show own_Go _ _ _ _ T23 (mkF m 124 #[.val (.int p_1), .val (.int p_2), .val (.int p_3), .val (.int p_4), .val (.int p_5), .val (.int p_6), .val (.int r2), .val (.int r4), .val (.int r6), .val (.int r8), .val (.ref b9), .val (.int r24), .val (.long v25), .second, .val (.long v26), .second, .val (.long v27), .second, .val (.long v28), .second, .unset] [])
        refine own_go (fun _ k => XS.iconst X23.here hx rfl (hb hby at_124) k) ?_
        show own_Go _ _ _ _ T23 (mkF m 125 #[.val (.int p_1), .val (.int p_2), .val (.int p_3), .val (.int p_4), .val (.int p_5), .val (.int p_6), .val (.int r2), .val (.int r4), .val (.int r6), .val (.int r8), .val (.ref b9), .val (.int r24), .val (.long v25), .second, .val (.long v26), .second, .val (.long v27), .second, .val (.long v28), .second, .unset] [(.int (0 : Int32))])
        refine own_go (fun _ k => XS.istore X23.here hx rfl (hb hby at_125) rfl (l' := #[.val (.int p_1), .val (.int p_2), .val (.int p_3), .val (.int p_4), .val (.int p_5), .val (.int p_6), .val (.int r2), .val (.int r4), .val (.int r6), .val (.int r8), .val (.ref b9), .val (.int r24), .val (.long v25), .second, .val (.long v26), .second, .val (.long v27), .second, .val (.long v28), .second, .val (.int (0 : Int32))]) rfl k) ?_
        show own_Go _ _ _ _ T23 (mkF m 127 #[.val (.int p_1), .val (.int p_2), .val (.int p_3), .val (.int p_4), .val (.int p_5), .val (.int p_6), .val (.int r2), .val (.int r4), .val (.int r6), .val (.int r8), .val (.ref b9), .val (.int r24), .val (.long v25), .second, .val (.long v26), .second, .val (.long v27), .second, .val (.long v28), .second, .val (.int (0 : Int32))] [])
        refine own_go (fun _ k => XS.iload X23.here hx rfl (hb hby at_127) rfl k) ?_
        show own_Go _ _ _ _ T23 (mkF m 129 #[.val (.int p_1), .val (.int p_2), .val (.int p_3), .val (.int p_4), .val (.int p_5), .val (.int p_6), .val (.int r2), .val (.int r4), .val (.int r6), .val (.int r8), .val (.ref b9), .val (.int r24), .val (.long v25), .second, .val (.long v26), .second, .val (.long v27), .second, .val (.long v28), .second, .val (.int (0 : Int32))] [(.int r24)])
        refine own_go (fun _ k => XS.iload X23.here hx rfl (hb hby at_129) rfl k) ?_
        show own_Go _ _ _ _ T23 (mkF m 131 #[.val (.int p_1), .val (.int p_2), .val (.int p_3), .val (.int p_4), .val (.int p_5), .val (.int p_6), .val (.int r2), .val (.int r4), .val (.int r6), .val (.int r8), .val (.ref b9), .val (.int r24), .val (.long v25), .second, .val (.long v26), .second, .val (.long v27), .second, .val (.long v28), .second, .val (.int (0 : Int32))] [(.int (0 : Int32)), (.int r24)])
        have hc36 : r24 = (0 : Int32) := own_t0_2 p_1 p_2 p_3 p_4 p_5 p_6 r2 r4 r6 r8 r24 v25 v26 v27 v28 hr_r2 hr_r4 hr_r6 hr_r8 hr_r24 hdv25 hdv26 hdv27 hdv28 hc29 hc32 hc35
        refine own_go (fun _ k => XS.icmpNo X23.here hx rfl (hb hby at_131) rfl (Jvm.Free.XT.ii_ne_f hc36) k) ?_
        show own_Go _ _ _ _ T23 (mkF m 134 #[.val (.int p_1), .val (.int p_2), .val (.int p_3), .val (.int p_4), .val (.int p_5), .val (.int p_6), .val (.int r2), .val (.int r4), .val (.int r6), .val (.int r8), .val (.ref b9), .val (.int r24), .val (.long v25), .second, .val (.long v26), .second, .val (.long v27), .second, .val (.long v28), .second, .val (.int (0 : Int32))] [])
        refine own_go (fun _ k => XS.iconst X23.here hx rfl (hb hby at_134) k) ?_
        show own_Go _ _ _ _ T23 (mkF m 135 #[.val (.int p_1), .val (.int p_2), .val (.int p_3), .val (.int p_4), .val (.int p_5), .val (.int p_6), .val (.int r2), .val (.int r4), .val (.int r6), .val (.int r8), .val (.ref b9), .val (.int r24), .val (.long v25), .second, .val (.long v26), .second, .val (.long v27), .second, .val (.long v28), .second, .val (.int (0 : Int32))] [(.int (1 : Int32))])
        refine own_go (fun _ k => XS.goto X23.here hx rfl (pc0 := 135) (pc' := 139) rfl (hb hby at_135) (by decide) (by decide) k) ?_
        show own_Go _ _ _ _ T23 (mkF m 139 #[.val (.int p_1), .val (.int p_2), .val (.int p_3), .val (.int p_4), .val (.int p_5), .val (.int p_6), .val (.int r2), .val (.int r4), .val (.int r6), .val (.int r8), .val (.ref b9), .val (.int r24), .val (.long v25), .second, .val (.long v26), .second, .val (.long v27), .second, .val (.long v28), .second, .val (.int (0 : Int32))] [(.int (1 : Int32))])
        obtain ⟨fs, hr, hrun, hended, hW, hsame⟩ := X23.leave (v := some (.int (1 : Int32))) (fun h => by rw [Bd.returns] at h; cases h)
        refine ⟨_, _, retOut X23 hx Bd.returns rfl (Or.inl ⟨rfl, Or.inr (Or.inl rfl), _, rfl⟩) (hb hby at_139) hr, hrun, hended, _, _, rfl, ?_, ⟨_, rfl⟩, hW, hsame.mono (by decide) (by decide)⟩
        show own_Q0 Z p_1 p_2 p_3 p_4 p_5 p_6 h0 n0 _ T23.heap _
        rw [e23]
        exact ⟨rfl, N23⟩
      · refine own_go (fun _ k => XS.ifNo X23.here hx rfl (hb hby at_110) rfl (Jvm.Free.XT.ll_lt_f hc35) k) ?_
        show own_Go _ _ _ _ T23 (mkF m 113 #[.val (.int p_1), .val (.int p_2), .val (.int p_3), .val (.int p_4), .val (.int p_5), .val (.int p_6), .val (.int r2), .val (.int r4), .val (.int r6), .val (.int r8), .val (.ref b9), .val (.int r24), .val (.long v25), .second, .val (.long v26), .second, .val (.long v27), .second, .val (.long v28), .second, .unset] [])
        refine own_go (fun _ k => XS.lload X23.here hx rfl (hb hby at_113) rfl k) ?_
        show own_Go _ _ _ _ T23 (mkF m 115 #[.val (.int p_1), .val (.int p_2), .val (.int p_3), .val (.int p_4), .val (.int p_5), .val (.int p_6), .val (.int r2), .val (.int r4), .val (.int r6), .val (.int r8), .val (.ref b9), .val (.int r24), .val (.long v25), .second, .val (.long v26), .second, .val (.long v27), .second, .val (.long v28), .second, .unset] [(.long v28)])
        refine own_go (fun _ k => XS.lconst X23.here hx rfl (hb hby at_115) k) ?_
        show own_Go _ _ _ _ T23 (mkF m 116 #[.val (.int p_1), .val (.int p_2), .val (.int p_3), .val (.int p_4), .val (.int p_5), .val (.int p_6), .val (.int r2), .val (.int r4), .val (.int r6), .val (.int r8), .val (.ref b9), .val (.int r24), .val (.long v25), .second, .val (.long v26), .second, .val (.long v27), .second, .val (.long v28), .second, .unset] [(.long (0 : Int64)), (.long v28)])
        refine own_go (fun _ k => XS.lcmp X23.here hx rfl (hb hby at_116) rfl k) ?_
        show own_Go _ _ _ _ T23 (mkF m 117 #[.val (.int p_1), .val (.int p_2), .val (.int p_3), .val (.int p_4), .val (.int p_5), .val (.int p_6), .val (.int r2), .val (.int r4), .val (.int r6), .val (.int r8), .val (.ref b9), .val (.int r24), .val (.long v25), .second, .val (.long v26), .second, .val (.long v27), .second, .val (.long v28), .second, .unset] [(.int (lcmpW v28 (0 : Int64)))])
        by_cases hc38 : v28 < (0 : Int64)
        · refine own_go (fun _ k => XS.ifYes X23.here hx rfl (pc0 := 117) (pc' := 124) rfl (hb hby at_117) rfl (Jvm.Free.XT.ll_lt_t hc38) (by decide) (by decide) k) ?_
          show own_Go _ _ _ _ T23 (mkF m 124 #[.val (.int p_1), .val (.int p_2), .val (.int p_3), .val (.int p_4), .val (.int p_5), .val (.int p_6), .val (.int r2), .val (.int r4), .val (.int r6), .val (.int r8), .val (.ref b9), .val (.int r24), .val (.long v25), .second, .val (.long v26), .second, .val (.long v27), .second, .val (.long v28), .second, .unset] [])
          refine own_go (fun _ k => XS.iconst X23.here hx rfl (hb hby at_124) k) ?_
          show own_Go _ _ _ _ T23 (mkF m 125 #[.val (.int p_1), .val (.int p_2), .val (.int p_3), .val (.int p_4), .val (.int p_5), .val (.int p_6), .val (.int r2), .val (.int r4), .val (.int r6), .val (.int r8), .val (.ref b9), .val (.int r24), .val (.long v25), .second, .val (.long v26), .second, .val (.long v27), .second, .val (.long v28), .second, .unset] [(.int (0 : Int32))])
          refine own_go (fun _ k => XS.istore X23.here hx rfl (hb hby at_125) rfl (l' := #[.val (.int p_1), .val (.int p_2), .val (.int p_3), .val (.int p_4), .val (.int p_5), .val (.int p_6), .val (.int r2), .val (.int r4), .val (.int r6), .val (.int r8), .val (.ref b9), .val (.int r24), .val (.long v25), .second, .val (.long v26), .second, .val (.long v27), .second, .val (.long v28), .second, .val (.int (0 : Int32))]) rfl k) ?_
          show own_Go _ _ _ _ T23 (mkF m 127 #[.val (.int p_1), .val (.int p_2), .val (.int p_3), .val (.int p_4), .val (.int p_5), .val (.int p_6), .val (.int r2), .val (.int r4), .val (.int r6), .val (.int r8), .val (.ref b9), .val (.int r24), .val (.long v25), .second, .val (.long v26), .second, .val (.long v27), .second, .val (.long v28), .second, .val (.int (0 : Int32))] [])
          refine own_go (fun _ k => XS.iload X23.here hx rfl (hb hby at_127) rfl k) ?_
          show own_Go _ _ _ _ T23 (mkF m 129 #[.val (.int p_1), .val (.int p_2), .val (.int p_3), .val (.int p_4), .val (.int p_5), .val (.int p_6), .val (.int r2), .val (.int r4), .val (.int r6), .val (.int r8), .val (.ref b9), .val (.int r24), .val (.long v25), .second, .val (.long v26), .second, .val (.long v27), .second, .val (.long v28), .second, .val (.int (0 : Int32))] [(.int r24)])
          refine own_go (fun _ k => XS.iload X23.here hx rfl (hb hby at_129) rfl k) ?_
          show own_Go _ _ _ _ T23 (mkF m 131 #[.val (.int p_1), .val (.int p_2), .val (.int p_3), .val (.int p_4), .val (.int p_5), .val (.int p_6), .val (.int r2), .val (.int r4), .val (.int r6), .val (.int r8), .val (.ref b9), .val (.int r24), .val (.long v25), .second, .val (.long v26), .second, .val (.long v27), .second, .val (.long v28), .second, .val (.int (0 : Int32))] [(.int (0 : Int32)), (.int r24)])
          have hc39 : r24 = (0 : Int32) := own_t0_3 p_1 p_2 p_3 p_4 p_5 p_6 r2 r4 r6 r8 r24 v25 v26 v27 v28 hr_r2 hr_r4 hr_r6 hr_r8 hr_r24 hdv25 hdv26 hdv27 hdv28 hc29 hc32 hc35 hc38
          refine own_go (fun _ k => XS.icmpNo X23.here hx rfl (hb hby at_131) rfl (Jvm.Free.XT.ii_ne_f hc39) k) ?_
          show own_Go _ _ _ _ T23 (mkF m 134 #[.val (.int p_1), .val (.int p_2), .val (.int p_3), .val (.int p_4), .val (.int p_5), .val (.int p_6), .val (.int r2), .val (.int r4), .val (.int r6), .val (.int r8), .val (.ref b9), .val (.int r24), .val (.long v25), .second, .val (.long v26), .second, .val (.long v27), .second, .val (.long v28), .second, .val (.int (0 : Int32))] [])
          refine own_go (fun _ k => XS.iconst X23.here hx rfl (hb hby at_134) k) ?_
          show own_Go _ _ _ _ T23 (mkF m 135 #[.val (.int p_1), .val (.int p_2), .val (.int p_3), .val (.int p_4), .val (.int p_5), .val (.int p_6), .val (.int r2), .val (.int r4), .val (.int r6), .val (.int r8), .val (.ref b9), .val (.int r24), .val (.long v25), .second, .val (.long v26), .second, .val (.long v27), .second, .val (.long v28), .second, .val (.int (0 : Int32))] [(.int (1 : Int32))])
          refine own_go (fun _ k => XS.goto X23.here hx rfl (pc0 := 135) (pc' := 139) rfl (hb hby at_135) (by decide) (by decide) k) ?_
          show own_Go _ _ _ _ T23 (mkF m 139 #[.val (.int p_1), .val (.int p_2), .val (.int p_3), .val (.int p_4), .val (.int p_5), .val (.int p_6), .val (.int r2), .val (.int r4), .val (.int r6), .val (.int r8), .val (.ref b9), .val (.int r24), .val (.long v25), .second, .val (.long v26), .second, .val (.long v27), .second, .val (.long v28), .second, .val (.int (0 : Int32))] [(.int (1 : Int32))])
          obtain ⟨fs, hr, hrun, hended, hW, hsame⟩ := X23.leave (v := some (.int (1 : Int32))) (fun h => by rw [Bd.returns] at h; cases h)
          refine ⟨_, _, retOut X23 hx Bd.returns rfl (Or.inl ⟨rfl, Or.inr (Or.inl rfl), _, rfl⟩) (hb hby at_139) hr, hrun, hended, _, _, rfl, ?_, ⟨_, rfl⟩, hW, hsame.mono (by decide) (by decide)⟩
          show own_Q0 Z p_1 p_2 p_3 p_4 p_5 p_6 h0 n0 _ T23.heap _
          rw [e23]
          exact ⟨rfl, N23⟩
        · refine own_go (fun _ k => XS.ifNo X23.here hx rfl (hb hby at_117) rfl (Jvm.Free.XT.ll_lt_f hc38) k) ?_
          show own_Go _ _ _ _ T23 (mkF m 120 #[.val (.int p_1), .val (.int p_2), .val (.int p_3), .val (.int p_4), .val (.int p_5), .val (.int p_6), .val (.int r2), .val (.int r4), .val (.int r6), .val (.int r8), .val (.ref b9), .val (.int r24), .val (.long v25), .second, .val (.long v26), .second, .val (.long v27), .second, .val (.long v28), .second, .unset] [])
          refine own_go (fun _ k => XS.iconst X23.here hx rfl (hb hby at_120) k) ?_
          show own_Go _ _ _ _ T23 (mkF m 121 #[.val (.int p_1), .val (.int p_2), .val (.int p_3), .val (.int p_4), .val (.int p_5), .val (.int p_6), .val (.int r2), .val (.int r4), .val (.int r6), .val (.int r8), .val (.ref b9), .val (.int r24), .val (.long v25), .second, .val (.long v26), .second, .val (.long v27), .second, .val (.long v28), .second, .unset] [(.int (1 : Int32))])
          refine own_go (fun _ k => XS.goto X23.here hx rfl (pc0 := 121) (pc' := 125) rfl (hb hby at_121) (by decide) (by decide) k) ?_
          show own_Go _ _ _ _ T23 (mkF m 125 #[.val (.int p_1), .val (.int p_2), .val (.int p_3), .val (.int p_4), .val (.int p_5), .val (.int p_6), .val (.int r2), .val (.int r4), .val (.int r6), .val (.int r8), .val (.ref b9), .val (.int r24), .val (.long v25), .second, .val (.long v26), .second, .val (.long v27), .second, .val (.long v28), .second, .unset] [(.int (1 : Int32))])
          refine own_go (fun _ k => XS.istore X23.here hx rfl (hb hby at_125) rfl (l' := #[.val (.int p_1), .val (.int p_2), .val (.int p_3), .val (.int p_4), .val (.int p_5), .val (.int p_6), .val (.int r2), .val (.int r4), .val (.int r6), .val (.int r8), .val (.ref b9), .val (.int r24), .val (.long v25), .second, .val (.long v26), .second, .val (.long v27), .second, .val (.long v28), .second, .val (.int (1 : Int32))]) rfl k) ?_
          show own_Go _ _ _ _ T23 (mkF m 127 #[.val (.int p_1), .val (.int p_2), .val (.int p_3), .val (.int p_4), .val (.int p_5), .val (.int p_6), .val (.int r2), .val (.int r4), .val (.int r6), .val (.int r8), .val (.ref b9), .val (.int r24), .val (.long v25), .second, .val (.long v26), .second, .val (.long v27), .second, .val (.long v28), .second, .val (.int (1 : Int32))] [])
          refine own_go (fun _ k => XS.iload X23.here hx rfl (hb hby at_127) rfl k) ?_
          show own_Go _ _ _ _ T23 (mkF m 129 #[.val (.int p_1), .val (.int p_2), .val (.int p_3), .val (.int p_4), .val (.int p_5), .val (.int p_6), .val (.int r2), .val (.int r4), .val (.int r6), .val (.int r8), .val (.ref b9), .val (.int r24), .val (.long v25), .second, .val (.long v26), .second, .val (.long v27), .second, .val (.long v28), .second, .val (.int (1 : Int32))] [(.int r24)])
          refine own_go (fun _ k => XS.iload X23.here hx rfl (hb hby at_129) rfl k) ?_
          show own_Go _ _ _ _ T23 (mkF m 131 #[.val (.int p_1), .val (.int p_2), .val (.int p_3), .val (.int p_4), .val (.int p_5), .val (.int p_6), .val (.int r2), .val (.int r4), .val (.int r6), .val (.int r8), .val (.ref b9), .val (.int r24), .val (.long v25), .second, .val (.long v26), .second, .val (.long v27), .second, .val (.long v28), .second, .val (.int (1 : Int32))] [(.int (1 : Int32)), (.int r24)])
          have hc41 : r24 = (1 : Int32) := own_t0_4 p_1 p_2 p_3 p_4 p_5 p_6 r2 r4 r6 r8 r24 v25 v26 v27 v28 hr_r2 hr_r4 hr_r6 hr_r8 hr_r24 hdv25 hdv26 hdv27 hdv28 hc29 hc32 hc35 hc38
          refine own_go (fun _ k => XS.icmpNo X23.here hx rfl (hb hby at_131) rfl (Jvm.Free.XT.ii_ne_f hc41) k) ?_
          show own_Go _ _ _ _ T23 (mkF m 134 #[.val (.int p_1), .val (.int p_2), .val (.int p_3), .val (.int p_4), .val (.int p_5), .val (.int p_6), .val (.int r2), .val (.int r4), .val (.int r6), .val (.int r8), .val (.ref b9), .val (.int r24), .val (.long v25), .second, .val (.long v26), .second, .val (.long v27), .second, .val (.long v28), .second, .val (.int (1 : Int32))] [])
          refine own_go (fun _ k => XS.iconst X23.here hx rfl (hb hby at_134) k) ?_
          show own_Go _ _ _ _ T23 (mkF m 135 #[.val (.int p_1), .val (.int p_2), .val (.int p_3), .val (.int p_4), .val (.int p_5), .val (.int p_6), .val (.int r2), .val (.int r4), .val (.int r6), .val (.int r8), .val (.ref b9), .val (.int r24), .val (.long v25), .second, .val (.long v26), .second, .val (.long v27), .second, .val (.long v28), .second, .val (.int (1 : Int32))] [(.int (1 : Int32))])
          refine own_go (fun _ k => XS.goto X23.here hx rfl (pc0 := 135) (pc' := 139) rfl (hb hby at_135) (by decide) (by decide) k) ?_
          show own_Go _ _ _ _ T23 (mkF m 139 #[.val (.int p_1), .val (.int p_2), .val (.int p_3), .val (.int p_4), .val (.int p_5), .val (.int p_6), .val (.int r2), .val (.int r4), .val (.int r6), .val (.int r8), .val (.ref b9), .val (.int r24), .val (.long v25), .second, .val (.long v26), .second, .val (.long v27), .second, .val (.long v28), .second, .val (.int (1 : Int32))] [(.int (1 : Int32))])
          obtain ⟨fs, hr, hrun, hended, hW, hsame⟩ := X23.leave (v := some (.int (1 : Int32))) (fun h => by rw [Bd.returns] at h; cases h)
          refine ⟨_, _, retOut X23 hx Bd.returns rfl (Or.inl ⟨rfl, Or.inr (Or.inl rfl), _, rfl⟩) (hb hby at_139) hr, hrun, hended, _, _, rfl, ?_, ⟨_, rfl⟩, hW, hsame.mono (by decide) (by decide)⟩
          show own_Q0 Z p_1 p_2 p_3 p_4 p_5 p_6 h0 n0 _ T23.heap _
          rw [e23]
          exact ⟨rfl, N23⟩
set_option maxRecDepth 65536 in
set_option maxHeartbeats 40000000 in
theorem comes_1 {Post : Tables → Env → Array Value → State → Outcome → State → Prop} (hpost : ∀ tb e args s v u, (limb_1_1.after args s (.returned v) u = true ∧ limb_1_2.after args s (.returned v) u = true ∧ True) → FrameEnd s (.returned v) u (Jvm.fieldLocs frame_1_writes args s ++ Jvm.arrayLocs frame_1_arrays args s ++ Jvm.staticLocs frame_1_statics s) 16 128 → Post tb e args s (.returned v) u) :
    ArmFor flags0 classFile x code maxLocals ret World_1 tables_1 room_1 Calls_1 rest_1 Pre_1 Post := by
  intro l hfl _ _ p e ha hc hk s m args below hf hA hF happ hP
  obtain ⟨hcalls, hrest, hpre⟩ := hP
  obtain ⟨-, -, -, hnamed, -, -, -, hat⟩ := (Spec.applies_iff hf).mp happ
  obtain ⟨hg, hn⟩ := and_e (Cond.before_iff.mp (show (Jvm.Cond.and given_1 narrow_1).before args s = true from hpre))
  obtain ⟨g1, g2⟩ := and_e hg
  obtain ⟨g3, g4⟩ := and_e g2
  obtain ⟨g5, g6⟩ := and_e g4
  obtain ⟨g7, g8⟩ := and_e g6
  obtain ⟨g9, g10⟩ := and_e g8
  obtain ⟨g11, g12⟩ := and_e g10
  obtain ⟨w0, w1, w2, w3, w4, w5, rfl⟩ : ∃ w0 w1 w2 w3 w4 w5 : Value, args = #[w0, w1, w2, w3, w4, w5] := by
    have hs : args.size = 6 := by simpa [Cond.value, given_1] using g1
    obtain ⟨L⟩ := args
    match L, hs with
    | [w0, w1, w2, w3, w4, w5], _ => exact ⟨w0, w1, w2, w3, w4, w5, rfl⟩
  have hw := fun d (hd : d ∈ tables_1) => atoms_spec (ws := Jvm.Cond.code x code maxLocals ret :: tables_1) hat d (List.mem_cons_of_mem _ hd)
  have hfit : Fit s := fun {y c} hc i hi => by
    obtain ⟨ha, rfl⟩ := Array.getElem?_eq_some_iff.mp hc
    have q := List.all_eq_true.mp ((Array.all_eq_true_iff_forall_mem.mp hF) _ (Array.getElem_mem ha)) i (List.mem_range.mpr hi)
    simpa [Array.getElem?_eq_getElem hi] using q
  obtain ⟨i0, ei0⟩ := is_v g3
  obtain rfl : w0 = (.int i0) := Option.some.inj ei0
  obtain ⟨i1, ei1⟩ := is_v g5
  obtain rfl : w1 = (.int i1) := Option.some.inj ei1
  obtain ⟨i2, ei2⟩ := is_v g7
  obtain rfl : w2 = (.int i2) := Option.some.inj ei2
  obtain ⟨i3, ei3⟩ := is_v g9
  obtain rfl : w3 = (.int i3) := Option.some.inj ei3
  obtain ⟨i4, ei4⟩ := is_v g11
  obtain rfl : w4 = (.int i4) := Option.some.inj ei4
  obtain ⟨i5, ei5⟩ := is_v g12
  obtain rfl : w5 = (.int i5) := Option.some.inj ei5
  obtain ⟨n, o, h1, h2, h3, _, L, rfl, ⟨rfl, N⟩, hq⟩ := own_rm0 l s _ hw tables_1 i0 i1 i2 i3 i4 i5  s.heap s.heap.size (Nat.le_refl _)  p e ha hc hk s m _ below hf ((Spec.applies_iff_loose hf).mp happ).1 ⟨rfl, State.Warmed39.refl s, rfl⟩ trivial
  refine ⟨n, _, h1, h2, h3, hpost _ _ _ _ _ _ ⟨Cond.after_iff.mpr rfl, Cond.after_iff.mpr (eq_i res_at (Term.int_eval (1)) rfl), trivial⟩ ⟨hq.1, hq.2.1, (hq.2.2.sift fun y hy => Or.inr (N y hy)).mono (by decide) (by decide)⟩⟩
theorem main_1_1 : Claimed_1_1 := comes_1 fun _ _ _ _ _ _ h hF => ⟨h.1, hF⟩
theorem main_1_2 : Claimed_1_2 := comes_1 fun _ _ _ _ _ _ h hF => ⟨h.2.1, hF⟩
end Jvm.Pilot.@@N@@
namespace Jvm.Pilot.@@N@@
open Jvm Jvm.ClassFile Sem Op Lib Jvm.Free Jvm.Stand Jvm.Pilot.@@N@@.Jvm.D
/-! MADE BY PROGRAM (witnessworld.py) out of the Statement's table words and the real class files: 11 classes; the members and pool entries that the words name. The judged class is class 1, her method 1. -/
namespace start1
open Jvm.ClassFile
def u (s : String) : CpInfo := .utf8 (stringToUtf16 s)
/-- a pool by its gaps: so many unusable entries, then the entry; so many at the end -/
def gap : Nat → List CpInfo → List CpInfo
  | 0, r => r
  | n + 1, r => .unusable :: gap n r
def poolList (es : List (Nat × CpInfo)) (last : Nat) : List CpInfo := es.foldr (fun e r => gap e.1 (e.2 :: r)) (gap last [])
def pool (es : List (Nat × CpInfo)) (last : Nat) : Array CpInfo := ⟨poolList es last⟩
def fileOf (pool : Array CpInfo) (this : Nat) (attrs : Array Attribute := #[]) (ms : Array MethodInfo := #[]) (fl : Nat := 33) (sup : Nat := 0) (ifs : Array Nat := #[]) (fds : Array FieldInfo := #[]) : ClassFile where
  minorVersion := 0
  majorVersion := 65
  constantPool := pool
  accessFlags := fl
  thisClass := this
  superClass := sup
  interfaces := ifs
  fields := fds
  methods := ms
  attributes := attrs
def plain (name : String) (sup : Option ClassId) : Class where
  name := name
  kind := .ordinary
  loader := none
  accessFlags := 33
  super := sup
  interfaces := #[]
  cf := none
  fields := #[]
  methods := #[]
  instanceTypes := #[]
  staticTypes := #[]
  resolved := #[]
  callSites := []
  init := .initialized
  statics := none
  mirror := none

def pool0 : Array CpInfo := pool [(5, u "<init>"), (0, u "()V"), (1, .class_ 10), (1, u "java/lang/Object")] 113

def k0c0 : Code := { maxStack := 0, maxLocals := 1, code := object_method_1_code, exceptionTable := #[], attributes := #[] }
def k0m0 : Method := { name := "<init>", desc := "()V", sig := { parameters := [], returnType := none }, accessFlags := 1, code := some k0c0 }
/-- java/lang/Object -/
def k0 : Class := { plain "java/lang/Object" none with
  accessFlags := 33
  interfaces := #[]
  cf := some (fileOf pool0 8 #[] #[{ accessFlags := 1, nameIndex := 5, descriptorIndex := 6, attributes := #[] }] 33 0 #[] #[])
  fields := #[]
  methods := #[k0m0]
  instanceTypes := #[]
  staticTypes := #[]
  resolved := Array.replicate 124 none
  statics := none }

def pool1 : Array CpInfo := pool [(2, .class_ 4), (1, u "java/lang/Object"), (0, u "<init>"), (0, u "()V"), (0, .methodref 8 9), (0, .class_ 10), (0, .nameAndType 11 12), (0, u "java/lang/Math"), (0, u "min"), (0, u "(II)I"), (0, .methodref 8 14), (0, .nameAndType 15 12), (0, u "max"), (0, .class_ 17), (0, u "com/example/ratebook/ratebook/CellRange"), (0, .methodref 16 19), (0, .nameAndType 5 20), (0, u "(IIII)V"), (0, .methodref 16 22), (0, .nameAndType 23 24), (0, u "holds"), (0, u "(II)Z"), (0, .class_ 26), (0, u "com/example/ratebook/ratebook/CellRangeHoldsPinLaw"), (2, u "law"), (0, u "(IIIIII)Z")] 3

def k1m0 : Method := { name := "<init>", desc := "()V", sig := { parameters := [], returnType := none }, accessFlags := 1, code := none }
def k1c1 : Code := { maxStack := 6, maxLocals := 21, code := code, exceptionTable := #[], attributes := #[] }
def k1m1 : Method := { name := "law", desc := "(IIIIII)Z", sig := { parameters := [.int, .int, .int, .int, .int, .int], returnType := some .boolean }, accessFlags := 9, code := some k1c1 }
/-- com/example/ratebook/ratebook/CellRangeHoldsPinLaw -/
def k1 : Class := { plain "com/example/ratebook/ratebook/CellRangeHoldsPinLaw" (some 0) with
  accessFlags := 49
  interfaces := #[]
  cf := some (fileOf pool1 25 #[] #[{ accessFlags := 1, nameIndex := 5, descriptorIndex := 6, attributes := #[] }, { accessFlags := 9, nameIndex := 29, descriptorIndex := 30, attributes := #[] }] 49 2 #[] #[])
  fields := #[]
  methods := #[k1m0, k1m1]
  instanceTypes := #[]
  staticTypes := #[]
  resolved := Array.replicate 34 none
  statics := none }

def pool2 : Array CpInfo := pool [(1, .class_ 2), (0, u "java/lang/Math"), (1, .class_ 6), (1, u "java/lang/Object"), (0, u "<init>"), (0, u "()V"), (89, .class_ 100), (1, u "java/lang/Math$RandomNumberGeneratorHolder"), (71, u "negativeZeroFloatBits"), (0, u "J"), (2, u "negativeZeroDoubleBits"), (21, u "max"), (2, u "min"), (43, u "$assertionsDisabled"), (0, u "Z"), (88, u "(II)I"), (2, u "twoToTheDoubleScaleDown"), (0, u "D"), (4, u "twoToTheDoubleScaleUp"), (9, u "E"), (3, u "PI"), (2, u "TAU"), (2, u "DEGREES_TO_RADIANS"), (0, u "RADIANS_TO_DEGREES")] 94

def k2m0 : Method := { name := "<init>", desc := "()V", sig := { parameters := [], returnType := none }, accessFlags := 2, code := none }
def k2c1 : Code := { maxStack := 2, maxLocals := 2, code := jdk_29_method_65_code, exceptionTable := #[], attributes := #[] }
def k2m1 : Method := { name := "max", desc := "(II)I", sig := { parameters := [.int, .int], returnType := some .int }, accessFlags := 9, code := some k2c1 }
def k2c2 : Code := { maxStack := 2, maxLocals := 2, code := jdk_29_method_69_code, exceptionTable := #[], attributes := #[] }
def k2m2 : Method := { name := "min", desc := "(II)I", sig := { parameters := [.int, .int], returnType := some .int }, accessFlags := 9, code := some k2c2 }
/-- java/lang/Math -/
def k2 : Class := { plain "java/lang/Math" (some 0) with
  accessFlags := 49
  interfaces := #[]
  cf := some (fileOf pool2 1 #[.nestMembers #[98]] #[{ accessFlags := 2, nameIndex := 7, descriptorIndex := 8, attributes := #[] }, { accessFlags := 9, nameIndex := 198, descriptorIndex := 335, attributes := #[] }, { accessFlags := 9, nameIndex := 201, descriptorIndex := 335, attributes := #[] }] 49 4 #[] #[{ accessFlags := 25, nameIndex := 354, descriptorIndex := 339, attributes := #[] }, { accessFlags := 25, nameIndex := 358, descriptorIndex := 339, attributes := #[] }, { accessFlags := 25, nameIndex := 361, descriptorIndex := 339, attributes := #[] }, { accessFlags := 26, nameIndex := 364, descriptorIndex := 339, attributes := #[] }, { accessFlags := 26, nameIndex := 365, descriptorIndex := 339, attributes := #[] }, { accessFlags := 26, nameIndex := 172, descriptorIndex := 173, attributes := #[] }, { accessFlags := 26, nameIndex := 176, descriptorIndex := 173, attributes := #[] }, { accessFlags := 8, nameIndex := 344, descriptorIndex := 339, attributes := #[] }, { accessFlags := 8, nameIndex := 338, descriptorIndex := 339, attributes := #[] }, { accessFlags := 4120, nameIndex := 245, descriptorIndex := 246, attributes := #[] }])
  fields := #[{ name := "E", type := .double, accessFlags := 25, slot := 0, constantValue := 0 }, { name := "PI", type := .double, accessFlags := 25, slot := 1, constantValue := 0 }, { name := "TAU", type := .double, accessFlags := 25, slot := 2, constantValue := 0 }, { name := "DEGREES_TO_RADIANS", type := .double, accessFlags := 26, slot := 3, constantValue := 0 }, { name := "RADIANS_TO_DEGREES", type := .double, accessFlags := 26, slot := 4, constantValue := 0 }, { name := "negativeZeroFloatBits", type := .long, accessFlags := 26, slot := 5, constantValue := 0 }, { name := "negativeZeroDoubleBits", type := .long, accessFlags := 26, slot := 6, constantValue := 0 }, { name := "twoToTheDoubleScaleUp", type := .double, accessFlags := 8, slot := 7, constantValue := 0 }, { name := "twoToTheDoubleScaleDown", type := .double, accessFlags := 8, slot := 8, constantValue := 0 }, { name := "$assertionsDisabled", type := .boolean, accessFlags := 4120, slot := 9, constantValue := 0 }]
  methods := #[k2m0, k2m1, k2m2]
  instanceTypes := #[]
  staticTypes := #[.double, .double, .double, .double, .double, .long, .long, .double, .double, .boolean]
  resolved := Array.replicate 460 none
  statics := none }

def pool3 : Array CpInfo := pool [(1, .methodref 2 3), (0, .class_ 4), (0, .nameAndType 5 6), (0, u "java/lang/Object"), (0, u "<init>"), (0, u "()V"), (0, .class_ 8), (0, u "java/lang/Record")] 13

def k3c0 : Code := { maxStack := 1, maxLocals := 1, code := jdk_30_method_1_code, exceptionTable := #[], attributes := #[] }
def k3m0 : Method := { name := "<init>", desc := "()V", sig := { parameters := [], returnType := none }, accessFlags := 4, code := some k3c0 }
/-- java/lang/Record -/
def k3 : Class := { plain "java/lang/Record" (some 0) with
  accessFlags := 1057
  interfaces := #[]
  cf := some (fileOf pool3 7 #[] #[{ accessFlags := 4, nameIndex := 5, descriptorIndex := 6, attributes := #[] }] 1057 2 #[] #[])
  fields := #[]
  methods := #[k3m0]
  instanceTypes := #[]
  staticTypes := #[]
  resolved := Array.replicate 22 none
  statics := none }

def pool4 : Array CpInfo := pool [(1, .methodref 2 3), (0, .class_ 4), (0, .nameAndType 5 6), (0, u "java/lang/Record"), (0, u "<init>"), (0, u "()V"), (0, .fieldref 8 9), (0, .class_ 10), (0, .nameAndType 11 12), (0, u "com/example/ratebook/ratebook/CellRange"), (0, u "firstRow"), (0, u "I"), (0, .fieldref 8 14), (0, .nameAndType 15 12), (0, u "firstColumn"), (0, .fieldref 8 17), (0, .nameAndType 18 12), (0, u "lastRow"), (0, .fieldref 8 20), (0, .nameAndType 21 12), (0, u "lastColumn"), (56, u "(IIII)V"), (38, u "LAST_ROW"), (1, u "LAST_COLUMN"), (8, u "holds"), (0, u "(II)Z")] 36

def k4c0 : Code := { maxStack := 2, maxLocals := 5, code := prog_11_method_1_code, exceptionTable := #[], attributes := #[] }
def k4m0 : Method := { name := "<init>", desc := "(IIII)V", sig := { parameters := [.int, .int, .int, .int], returnType := none }, accessFlags := 0, code := some k4c0 }
def k4c1 : Code := { maxStack := 2, maxLocals := 3, code := prog_11_method_6_code, exceptionTable := #[], attributes := #[] }
def k4m1 : Method := { name := "holds", desc := "(II)Z", sig := { parameters := [.int, .int], returnType := some .boolean }, accessFlags := 0, code := some k4c1 }
/-- com/example/ratebook/ratebook/CellRange -/
def k4 : Class := { plain "com/example/ratebook/ratebook/CellRange" (some 3) with
  accessFlags := 48
  interfaces := #[]
  cf := some (fileOf pool4 8 #[] #[{ accessFlags := 0, nameIndex := 5, descriptorIndex := 78, attributes := #[] }, { accessFlags := 0, nameIndex := 128, descriptorIndex := 129, attributes := #[] }] 48 2 #[] #[{ accessFlags := 18, nameIndex := 11, descriptorIndex := 12, attributes := #[] }, { accessFlags := 18, nameIndex := 15, descriptorIndex := 12, attributes := #[] }, { accessFlags := 18, nameIndex := 18, descriptorIndex := 12, attributes := #[] }, { accessFlags := 18, nameIndex := 21, descriptorIndex := 12, attributes := #[] }, { accessFlags := 24, nameIndex := 117, descriptorIndex := 12, attributes := #[] }, { accessFlags := 24, nameIndex := 119, descriptorIndex := 12, attributes := #[] }])
  fields := #[{ name := "firstRow", type := .int, accessFlags := 18, slot := 0, constantValue := 0 }, { name := "firstColumn", type := .int, accessFlags := 18, slot := 1, constantValue := 0 }, { name := "lastRow", type := .int, accessFlags := 18, slot := 2, constantValue := 0 }, { name := "lastColumn", type := .int, accessFlags := 18, slot := 3, constantValue := 0 }, { name := "LAST_ROW", type := .int, accessFlags := 24, slot := 0, constantValue := 0 }, { name := "LAST_COLUMN", type := .int, accessFlags := 24, slot := 1, constantValue := 0 }]
  methods := #[k4m0, k4m1]
  instanceTypes := #[.int, .int, .int, .int]
  staticTypes := #[.int, .int]
  resolved := Array.replicate 166 none
  statics := none }

def pool5 : Array CpInfo := pool [(1, u "java/lang/Cloneable"), (0, .class_ 1), (0, u "java/lang/Object"), (0, .class_ 3)] 3

/-- java/lang/Cloneable -/
def k5 : Class := { plain "java/lang/Cloneable" (some 0) with
  accessFlags := 1537
  interfaces := #[]
  cf := some (fileOf pool5 2 #[] #[] 1537 4 #[] #[])
  fields := #[]
  methods := #[]
  instanceTypes := #[]
  staticTypes := #[]
  resolved := Array.replicate 8 none
  statics := none }

def pool6 : Array CpInfo := pool [(1, u "java/io/Serializable"), (0, .class_ 1), (0, u "java/lang/Object"), (0, .class_ 3)] 3

/-- java/io/Serializable -/
def k6 : Class := { plain "java/io/Serializable" (some 0) with
  accessFlags := 1537
  interfaces := #[]
  cf := some (fileOf pool6 2 #[] #[] 1537 4 #[] #[])
  fields := #[]
  methods := #[]
  instanceTypes := #[]
  staticTypes := #[]
  resolved := Array.replicate 8 none
  statics := none }

/-- the primitive byte -/
def k7 : Class := { plain "byte" none with kind := .primitive 'B', accessFlags := 0x411 }
/-- [B -/
def k8 : Class := { plain "[B" (some 0) with kind := .array 7 .byte, interfaces := #[5, 6], accessFlags := 1041 }

/-- the primitive int -/
def k9 : Class := { plain "int" none with kind := .primitive 'I', accessFlags := 0x411 }
/-- [I -/
def k10 : Class := { plain "[I" (some 0) with kind := .array 9 .int, interfaces := #[5, 6], accessFlags := 1041 }

def heap : Heap := #[]
def classes : Array Class := #[k0, k1, k2, k3, k4, k5, k6, k7, k8, k9, k10]
def interned : List (Array UInt16 × Addr) := []
def slotsUsed : Nat := 0
def theMethod : MethodId := ⟨1, 1⟩
def args0 : Array Value := #[.int 1, .int 2, .int 3, .int 4, .int 5, .int 6]
def aboutOver (below : List Frame) : State where
  vm := { classes := classes, interned := interned.toArray }
  heap := heap
  slotsUsed := slotsUsed
  threads := #[{ frames := .invoking theMethod args0 :: below }]
def below0 : List Frame := [.native { method := ⟨0, 0⟩, args := #[] }]
def about1 : State := aboutOver below0
def p0 : Program := .bare "" "" ""
def e0 : Env := launch0.env 0 0 0
theorem w_frames : about1.frames = Frame.invoking theMethod args0 :: below0 := rfl
set_option maxRecDepth 65536 in
theorem w_args : argsFit about1.vm theMethod args0 = true := by decide +kernel
set_option maxRecDepth 65536 in
theorem w_heap : heapFits about1 = true := by decide +kernel
set_option maxRecDepth 65536 in
theorem w_runnable : about1.curStatus? = some .runnable := by decide +kernel
set_option maxRecDepth 65536 in
theorem w_alone : about1.alone = true := by decide +kernel
set_option maxRecDepth 65536 in
theorem w_named : about1.methodNamed? x = some theMethod := by decide +kernel
set_option maxRecDepth 65536 in
theorem w_hears : about1.hears theMethod below0 = true := by decide +kernel
set_option maxRecDepth 65536 in
theorem w_ripe : about1.ripe theMethod args0 below0 = true := by decide +kernel
theorem w_running : about1.status = .running := rfl
set_option maxRecDepth 65536 in
theorem w_room : about1.hasRoom e0.platform room_1 = true :=
  launch0.hasRoom_least _ room_1 (by decide +kernel) (by decide +kernel) (by decide +kernel) (by decide +kernel) (by decide +kernel) (by decide +kernel)
theorem allAtoms_all (ts : List Jvm.Cond) (a : Array Jvm.Value) (st : Jvm.State) : (allAtoms ts).before a st = ts.all (fun c => c.before a st) := by
  induction ts with
  | nil => rfl
  | cons c t ih =>
    show (Jvm.Cond.and c (allAtoms t)).before a st = _
    rw [Jvm.Cond.before_and, ih, List.all_cons]
def words1 : List Jvm.Cond := Jvm.Cond.code x code maxLocals ret :: tables_1
/-- a 'code' word, met by the world's own term for the bytes: nothing is compared byte by byte -/
theorem code_word {y : MethodName} {bytes : ByteArray} {mx : Nat} {rt : Option FieldType} {a : Array Value} {s : State} {m : MethodId} {meth : Method} {c : Code} (h1 : s.methodNamed? y = some m) (h2 : s.vm.method? m = some meth) (h3 : meth.code = some c) (h4 : c.code = bytes)
    (h5 : (c.maxLocals == mx && c.exceptionTable.isEmpty && decide (c.maxStack ≤ mostOperands) && decide (meth.sig.returnType = rt) && !meth.locks && decide (parseMethodDescriptor y.desc = some meth.sig)) = true) : (Jvm.Cond.code y bytes mx rt).before a s = true := by
  simp only [Bool.and_eq_true, beq_iff_eq, Bool.not_eq_true', decide_eq_true_eq] at h5
  obtain ⟨⟨⟨⟨⟨g1, g2⟩, g3⟩, g4⟩, g5⟩, g6⟩ := h5
  simp [Cond.before, Cond.holds, Cond.value, h1, h2, h3, h4, g1, g2, g3, g4, g5, g6]
def isCode : Jvm.Cond → Bool
  | .code _ _ _ _ => true
  | _ => false
theorem all_split {L : List Jvm.Cond} {P : Jvm.Cond → Bool} (h1 : L.all (fun c => isCode c || P c) = true) (h2 : ∀ c ∈ L.filter isCode, P c = true) : L.all P = true := by
  refine List.all_eq_true.mpr fun c hc => ?_
  have h := List.all_eq_true.mp h1 c hc
  rcases Bool.eq_false_or_eq_true (isCode c) with hi | hi
  · exact h2 c (List.mem_filter.mpr ⟨hc, hi⟩)
  · simpa [hi] using h
set_option maxRecDepth 65536 in
theorem w_c0 : (Jvm.Cond.code x code maxLocals ret).before args0 about1 = true := code_word (m := ⟨1, 1⟩) (meth := k1m1) (c := k1c1) (by decide +kernel) rfl rfl rfl (by decide +kernel)
set_option maxRecDepth 65536 in
theorem w_c1 : (Jvm.Cond.code ({ cls := "java/lang/Math", name := "min", desc := "(II)I" } : Jvm.MethodName) jdk_29_method_69_code (2 : Nat) (Option.some Jvm.ClassFile.FieldType.int)).before args0 about1 = true := code_word (m := ⟨2, 2⟩) (meth := k2m2) (c := k2c2) (by decide +kernel) rfl rfl rfl (by decide +kernel)
set_option maxRecDepth 65536 in
theorem w_c2 : (Jvm.Cond.code ({ cls := "java/lang/Math", name := "max", desc := "(II)I" } : Jvm.MethodName) jdk_29_method_65_code (2 : Nat) (Option.some Jvm.ClassFile.FieldType.int)).before args0 about1 = true := code_word (m := ⟨2, 1⟩) (meth := k2m1) (c := k2c1) (by decide +kernel) rfl rfl rfl (by decide +kernel)
set_option maxRecDepth 65536 in
theorem w_c3 : (Jvm.Cond.code ({ cls := "com/example/ratebook/ratebook/CellRange", name := "<init>", desc := "(IIII)V" } : Jvm.MethodName) prog_11_method_1_code (5 : Nat) (Option.none : Option Jvm.ClassFile.FieldType)).before args0 about1 = true := code_word (m := ⟨4, 0⟩) (meth := k4m0) (c := k4c0) (by decide +kernel) rfl rfl rfl (by decide +kernel)
set_option maxRecDepth 65536 in
theorem w_c4 : (Jvm.Cond.code ({ cls := "java/lang/Record", name := "<init>", desc := "()V" } : Jvm.MethodName) jdk_30_method_1_code (1 : Nat) (Option.none : Option Jvm.ClassFile.FieldType)).before args0 about1 = true := code_word (m := ⟨3, 0⟩) (meth := k3m0) (c := k3c0) (by decide +kernel) rfl rfl rfl (by decide +kernel)
set_option maxRecDepth 65536 in
theorem w_c5 : (Jvm.Cond.code ({ cls := "java/lang/Object", name := "<init>", desc := "()V" } : Jvm.MethodName) object_method_1_code (1 : Nat) (Option.none : Option Jvm.ClassFile.FieldType)).before args0 about1 = true := code_word (m := ⟨0, 0⟩) (meth := k0m0) (c := k0c0) (by decide +kernel) rfl rfl rfl (by decide +kernel)
set_option maxRecDepth 65536 in
theorem w_c6 : (Jvm.Cond.code ({ cls := "com/example/ratebook/ratebook/CellRange", name := "holds", desc := "(II)Z" } : Jvm.MethodName) prog_11_method_6_code (3 : Nat) (Option.some Jvm.ClassFile.FieldType.boolean)).before args0 about1 = true := code_word (m := ⟨4, 1⟩) (meth := k4m1) (c := k4c1) (by decide +kernel) rfl rfl rfl (by decide +kernel)
def codes1 : List Jvm.Cond := [Jvm.Cond.code x code maxLocals ret, Jvm.Cond.code ({ cls := "java/lang/Math", name := "min", desc := "(II)I" } : Jvm.MethodName) jdk_29_method_69_code (2 : Nat) (Option.some Jvm.ClassFile.FieldType.int), Jvm.Cond.code ({ cls := "java/lang/Math", name := "max", desc := "(II)I" } : Jvm.MethodName) jdk_29_method_65_code (2 : Nat) (Option.some Jvm.ClassFile.FieldType.int), Jvm.Cond.code ({ cls := "com/example/ratebook/ratebook/CellRange", name := "<init>", desc := "(IIII)V" } : Jvm.MethodName) prog_11_method_1_code (5 : Nat) (Option.none : Option Jvm.ClassFile.FieldType), Jvm.Cond.code ({ cls := "java/lang/Record", name := "<init>", desc := "()V" } : Jvm.MethodName) jdk_30_method_1_code (1 : Nat) (Option.none : Option Jvm.ClassFile.FieldType), Jvm.Cond.code ({ cls := "java/lang/Object", name := "<init>", desc := "()V" } : Jvm.MethodName) object_method_1_code (1 : Nat) (Option.none : Option Jvm.ClassFile.FieldType), Jvm.Cond.code ({ cls := "com/example/ratebook/ratebook/CellRange", name := "holds", desc := "(II)Z" } : Jvm.MethodName) prog_11_method_6_code (3 : Nat) (Option.some Jvm.ClassFile.FieldType.boolean)]
set_option maxRecDepth 65536 in
theorem codes_eq : words1.filter isCode = codes1 := rfl
theorem w_codes : ∀ c ∈ words1.filter isCode, c.before args0 about1 = true := by
  rw [codes_eq]
  intro c hc
  simp only [codes1, List.mem_cons, List.not_mem_nil, or_false] at hc
  rcases hc with rfl | rfl | rfl | rfl | rfl | rfl | rfl
  · exact w_c0
  · exact w_c1
  · exact w_c2
  · exact w_c3
  · exact w_c4
  · exact w_c5
  · exact w_c6
set_option maxRecDepth 65536 in
theorem w_t1 : (words1.take 24).all (fun c => isCode c || c.before args0 about1) = true := by decide +kernel
set_option maxRecDepth 65536 in
theorem w_t2 : (words1.drop 24).all (fun c => isCode c || c.before args0 about1) = true := by decide +kernel
theorem w_tables : (allAtoms (Jvm.Cond.code x code maxLocals ret :: tables_1)).before args0 about1 = true := by
  rw [allAtoms_all]
  show words1.all (fun c => c.before args0 about1) = true
  refine all_split ?_ w_codes
  rw [← List.take_append_drop 24 words1, List.all_append, w_t1, w_t2]
  rfl
set_option maxRecDepth 65536 in
theorem w_case : (Jvm.Cond.and given_1 narrow_1).before args0 about1 = true := by decide +kernel
theorem w_applies : (headSpec (Jvm.Cond.code x code maxLocals ret :: tables_1) room_1).applies x e0.platform about1 = true :=
  (Spec.applies_iff w_frames).mpr ⟨w_running, w_runnable, w_alone, w_named, w_hears, w_ripe, w_room, w_tables⟩
theorem atStart : AtStart classFile x code maxLocals ret World_1 tables_1 room_1 Calls_1 rest_1 Pre_1 launch0 p0 e0 about1 theMethod args0 below0 :=
  ⟨lists_1, trivial, launch0.admits_env _ _ _, launch0.least_env, fairChoices_fair.cas, fairChoices_fair.clock, w_frames, w_args, w_heap, w_applies, trivial, trivial, w_case⟩
end start1
theorem witness_1 : WitnessClaimed_1 := ⟨start1.p0, start1.e0, start1.about1, start1.theMethod, start1.args0, start1.below0, start1.atStart⟩
end Jvm.Pilot.@@N@@
