import JvmDerived
import JvmDerived.Pilot.@@N@@Statement
import JvmDerived.Pilot.@@N@@Code
set_option linter.unusedVariables false
set_option linter.unusedSimpArgs false
namespace Jvm.Pilot.@@N@@
open Jvm Jvm.ClassFile Sem Op Lib Jvm.Free Jvm.Stand Jvm.LawKit Jvm.RoadKit Bundle Jvm.Pilot.@@N@@.Jvm.D
def own_Go (tb : Tables) (e : Env) (below : List Frame) (P : State → Outcome → Prop) (T : State) (g : JFrame) : Prop := ∃ t o, Steps tb e below (T.setTop g) t ∧ P t o
theorem own_go {tb : Tables} {e : Env} {below : List Frame} {P : State → Outcome → Prop} {T T' : State} {g g' : JFrame} (k : ∀ target, Steps tb e below (T'.setTop g') target → Steps tb e below (T.setTop g) target) (h : own_Go tb e below P T' g') : own_Go tb e below P T g := by
  obtain ⟨t, o, a, b⟩ := h
  exact ⟨t, o, k t a, b⟩
theorem own_cast {P Q : Prop} (h : P = Q) (p : P) : Q := h ▸ p
def own_upd (f : Nat → Value) (k : Nat) (v : Value) : Nat → Value := fun i => if i = k then v else f i
/-- an array of length z at a, its element i being f i -/
def own_AV (Z : State) (h : Heap) (a : Addr) (ty : FieldType) (z : Int32) (f : Nat → Value) : Prop := ¬ z < 0 ∧ ∃ c : Cell, Arr Z h a c ty ∧ c.slots.size = z.toNatClampNeg ∧ ∀ i, i < c.slots.size → c.slots[i]? = some (f i)
section
variable {Z : State} {h h' : Heap} {a b : Addr} {ty : FieldType} {z j : Int32} {f : Nat → Value} {v w : Value} {sl k : Nat} {ws : List Addr} {cA : ClassId}
theorem own_AV.lt (F : own_AV Z h a ty z f) : a < h.size := by obtain ⟨_, c, A, -⟩ := F; exact A.lt
theorem own_AV.ext (F : own_AV Z h a ty z f) (E : Ext h h') : own_AV Z h' a ty z f := by obtain ⟨q, c, A, r⟩ := F; exact ⟨q, c, A.ext E, r⟩
theorem own_AV.other (F : own_AV Z h b ty z f) (W : Wr h h' a sl v) (q : b ≠ a) : own_AV Z h' b ty z f := by obtain ⟨q1, c, A, r⟩ := F; exact ⟨q1, c, A.other W q, r⟩
theorem own_AV.keep (F : own_AV Z h a ty z f) (K : Keep h h' ws) (q : a ∉ ws) : own_AV Z h' a ty z f := by obtain ⟨q1, c, A, r⟩ := F; exact ⟨q1, c, ⟨K.2.1 a c A.1 q, A.2⟩, r⟩
theorem own_AV.new (A : Arr Z h a (newA cA ty z) ty) (q : ¬ z < 0) : own_AV Z h a ty z (fun _ => defaultValue ty) :=
  ⟨q, _, A, sz_new _ _ _, fun i hi => by
    rw [sz_new] at hi
    simp [newA, hi]⟩
theorem own_AV.set (F : own_AV Z h a ty z f) (W : Wr h h' a j.toNatClampNeg v) (hk : j.toNatClampNeg = k) : own_AV Z h' a ty z (own_upd f k v) := by
  obtain ⟨q, c, A, s, t⟩ := F
  subst hk
  refine ⟨q, _, A.same W, by rw [sz_set]; exact s, fun i hi => ?_⟩
  rw [sz_set] at hi
  by_cases e : i = j.toNatClampNeg
  · subst e; simp [own_upd, Cell.setSlot, hi]
  · simp only [own_upd, if_neg e, Cell.setSlot]
    rw [Array.getElem?_setIfInBounds_ne (Ne.symm e)]; exact t i hi
theorem own_at {c : Cell} (t : ∀ i, i < c.slots.size → c.slots[i]? = some (f i)) (s : c.slots.size = z.toNatClampNeg) (hin : ¬ (j < 0 ∨ c.slots.size ≤ j.toNatClampNeg)) (hk : j.toNatClampNeg = k) (hv : f k = v) : c.slots[j.toNatClampNeg]? = some v := by
  rw [t _ (Nat.lt_of_not_le fun q => hin (Or.inr q)), hk, hv]
theorem own_sta_keep {C n d : String} (F : Sta Z h C n d w) (K : Keep h h' ws) (q : ∀ x ∈ ws, ∀ c : Cell, h[x]? = some c → c.vm.isStatics = false) : Sta Z h' C n d w := by
  obtain ⟨cf, i, k, f, st, cell, h1, h2, h3, h4, h5, h6, h7⟩ := F
  exact ⟨cf, i, k, f, st, cell, h1, h2, h3, h4, K.2.1 st cell h5 (fun m => by rw [q st m cell h5] at h6; cases h6), h6, h7⟩
theorem own_exa_plain {C : String} (F : Exa Z h a C) : ∀ c : Cell, h[a]? = some c → c.vm.isStatics = false := fun c hc => by
  obtain ⟨c1, k, h1, -, -, h4, -⟩ := F; cases h1.symm.trans hc; exact h4
theorem own_AV.plain (F : own_AV Z h a ty z f) : ∀ c : Cell, h[a]? = some c → c.vm.isStatics = false := fun c hc => by
  obtain ⟨_, c1, A, -⟩ := F; cases A.1.symm.trans hc; exact A.plain
end
theorem own_narb {x : Int32} (h : x = 0 ∨ x = 1) : nar .boolean x = x := by rcases h with rfl | rfl <;> rfl
theorem own_exa_ref {args : Array Value} {s : State} {t : Term} {C : String} (hx : (Jvm.Cond.exactly t C).value args s none s [] = some true) : ∃ a, t.eval args s none [] s = some (.ref a) ∧ Exa s s.heap a C := by
  obtain ⟨a', c', cell, k, e1, -⟩ := Cond.exactly_spec (Cond.before_iff.mpr hx)
  exact ⟨a', e1, Exa.start e1 hx⟩
theorem own_eq_int {args : Array Value} {s : State} {t : Term} {k : Int32} (h : (Jvm.Cond.eq t (Jvm.Term.int k)).value args s none s [] = some true) : t.eval args s none [] s = some (.int k) := by
  cases hv : t.eval args s none [] s with
  | none => simp [Cond.value, hv] at h
  | some v => cases v <;> simp [Cond.value, hv, Term.eval] at h <;> simp [h]
theorem own_fld_int {args : Array Value} {s : State} {t : Term} {C n d : String} {a : Addr} {k : Int32} (ev : t.eval args s none [] s = some (.ref a)) (h : (Jvm.Cond.eq (Jvm.Term.field t C n d) (Jvm.Term.int k)).value args s none s [] = some true) : Fld s s.heap a C n d (.int k) :=
  Fld.start ((fld_at ev).symm.trans (own_eq_int h))
theorem own_nar_c (x : Int32) : nar .char (x.toUInt32.toUInt16.toUInt32.toInt32) = x.toUInt32.toUInt16.toUInt32.toInt32 := Value.int.inj (Jvm.Free.XT.narrow_c x)
theorem own_nar_b (x : Int32) : nar .byte (x.toInt8.toInt32) = x.toInt8.toInt32 := Value.int.inj (Jvm.Free.XT.narrow_b x)
theorem own_NSroot {Z : State} {a0 : Array Value} {O K : String} {n : Nat} (w : (Jvm.Cond.noSuperclass O).before a0 Z = true) (wk : (Jvm.Cond.instantiable K n).before a0 Z = true) (hn : O ≠ K) : NS Z O K := by
  obtain ⟨c, k, h1, h2, h3, -, -⟩ := Cond.noSuperclass_spec w
  obtain ⟨t, kt, g1, -⟩ := Cond.instantiable_spec wk
  have ne := ids_ne h1 g1 hn
  refine ⟨c, t, h1, g1, fun fuel => ?_⟩
  cases fuel with
  | zero => rfl
  | succ f => simp [Vm.isSubclassAux, ne, h2, h3]
theorem own_NSno {Z : State} {a0 : Array Value} {C S K : String} {m : Nat} (w : (Jvm.Cond.superclass C S).before a0 Z = true) (wk : (Jvm.Cond.instantiable K m).before a0 Z = true) (n : NS Z C K) (hn : C ≠ K) : ∃ c t, Z.vm.findClass C = some c ∧ Z.vm.findClass K = some t ∧ Z.vm.assignable c t = false := by
  obtain ⟨c, t, h0, g0, n3⟩ := n
  obtain ⟨p, k, kp, h1, h2, h3, h4, h5, -, h7⟩ := Cond.superclass_spec h0 w
  obtain ⟨t', k', g1, g2, g5, g7, -⟩ := Cond.instantiable_spec wk
  cases g0.symm.trans g1
  have g8 : k'.isInterface = false := by
    cases hi : k'.isInterface <;> simp [hi] at g7 ⊢
  have ne := ids_ne h0 g0 hn
  refine ⟨c, t, h0, g0, ?_⟩
  show Z.vm.assignableAux (255 + 1) c t = false
  simp [Vm.assignableAux, ne, h2, g2, h5, g5, g8, Vm.isSubclass, n3]
theorem own_monoW {s t : State} {o : Outcome} {L : List Loc} {k n k' n' : Nat} (h : ReturnedEndW s o t L k n) (hk : k ≤ k') (hn : n ≤ n') : ReturnedEndW s o t L k' n' := ⟨h.1, h.2.1, h.2.2.1, h.2.2.2.mono hk hn⟩
theorem own_ldcSL {p : Program} {l : Launch} {e : Env} {R : Room} {s : State} {vm0 : Vm} {m : MethodId} {args : Array Value} {below : List Frame} {meth : Method} {c : Code} {T : State} {locs : List Loc} {cells slots : Nat} {Z : State} {a0 : Array Value} {h : Heap}
    (X : Stand p l e R (s.setVm vm0) m args below meth c T locs cells slots) (hx : p.tables.exec = Jvm.exec) (hZ : Z.Warmed39 vm0) {own text : String} {index : Nat} (hown : vm0.findClass own = some m.cls) (w : (Jvm.Cond.stringLink own index text).before a0 Z = true) (wS : ∀ a ∈ Bundle.stringAtoms, a.before a0 Z = true)
    (eT : T.heap = h) {k0 : Nat} (hS : s.Since vm0 k0) (hk : k0 ≤ h.size) {g : JFrame} (hg : g.method = m) (hd : decode c.code g.pc = .ok (.ldc index, 2)) {n : Nat} (hn : 4 * text.toList.length ≤ n) (hbig : n ≤ 536870912) (hc : cells + 2 ≤ R.cells) (hl : slots + (n + 4) ≤ R.slots) :
    ∃ (a : Addr) (T' : State) (h' : Heap) (k1 : Nat), Stand p l e R (s.setVm T'.vm) m args below meth c T' locs (cells + 2) (slots + (n + 4)) ∧ T'.heap = h' ∧ Ext h h' ∧ s.Since T'.vm k1 ∧ k1 ≤ h'.size ∧ Z.Warmed39 (s.setVm T'.vm).vm ∧ (s.setVm T'.vm).vm.findClass own = some m.cls ∧ Lit (s.setVm T'.vm) own index a ∧ (s.setVm vm0).Warmed39 T'.vm ∧
      ∀ target, Steps p.tables e below (T'.setTop { g with pc := g.pc + 2, stack := .ref a :: g.stack }) target → Steps p.tables e below (T.setTop g) target := by
  have wS' : ∀ d ∈ Bundle.stringAtoms, d.before args (s.setVm vm0) = true := fun d hd => by
    have q := wS d hd
    simp only [Bundle.stringAtoms, List.mem_cons, List.not_mem_nil, or_false] at hd
    rcases hd with rfl | rfl | rfl | rfl | rfl | rfl | rfl
    · exact mv (s := s.setVm vm0) hZ q
    · exact mv (s := s.setVm vm0) hZ q
    · exact mvA (s := s.setVm vm0) hZ q
    · exact mv (s := s.setVm vm0) hZ q
    · exact mv (s := s.setVm vm0) hZ q
    · exact mv (s := s.setVm vm0) hZ q
    · exact mv (s := s.setVm vm0) hZ q
  obtain ⟨a, T', X', hS', ⟨kk, hkk, hrr⟩, hb, -, st⟩ := X.ldcStringCold hx (own := own) hown (mvS hZ w) wS' hg hd hn hbig hc hl
  subst eT
  have hf : T'.vm.findClass own = some m.cls := by rw [hS'.1.alike.findClass]; exact hown
  exact ⟨a, T', _, _, X', rfl, ext_of hb, hS.trans hS' (Nat.le_trans hk (ext_of hb).1), Nat.le_refl _, State.Warmed39.trans (t := s.setVm vm0) hZ hS'.1, hf, by simp [Lit, State.resolvedAt?, hf, hkk, hrr], hS'.1, st⟩
theorem own_selfsel {Z s : State} {a0 args : Array Value} {y : MethodName} {n : Nat} (hZ : Z.Warmed39 s.vm) (wi : (Jvm.Cond.instantiable y.cls n).before a0 Z = true) (wm : (Jvm.Cond.instanceMethod y).before a0 Z = true) (wp : (Jvm.Cond.privateMethod y).before a0 Z = true) (hy : y.cls ≠ "java/lang/invoke/MethodHandle" ∧ y.cls ≠ "java/lang/invoke/VarHandle") : (Jvm.Cond.selects y.cls y y).before args s = true := by
  obtain ⟨c, k, h1, h2, -, h4, -⟩ := Cond.instantiable_spec (mvT (args := args) hZ wi)
  have g8 : k.isInterface = false := by
    cases hi : k.isInterface <;> simp [hi] at h4 ⊢
  exact selects_self_of_private h1 h2 g8 (Cond.privateMethod_at (mvP hZ wp (args := #[]))) (mvT hZ wm) hy
theorem own_addeq {k a b m n : Nat} (h : k = a + b) (h1 : a = m) (h2 : m + b = n) : k = n := by subst h1; exact h.trans h2
theorem own_lt {a b : Nat} (h : a < b) : a < b := h
theorem own_ne {a b : Nat} (h : a < b ∨ b < a) : a ≠ b := by omega

theorem own_pn0 : plainName "com/example/orderly_storefront/orderlystorefront/catalog/LinesCountPinLaw" = true := by first | (simp [plainName, overriddenIn]; done) | decide +kernel
theorem own_pn1 : plainName "com/example/orderly_storefront/orderlystorefront/catalog/CsvReader$Lines" = true := by first | (simp [plainName, overriddenIn]; done) | decide +kernel
theorem own_pd0 : parseMethodDescriptor "(I)I" = some ⟨[.int], some .int⟩ := by decide +kernel
theorem own_pd1 : parseMethodDescriptor "()V" = some ⟨[], none⟩ := by decide +kernel
theorem own_pd2 : parseMethodDescriptor "()I" = some ⟨[], some .int⟩ := by decide +kernel
theorem own_pd3 : parseMethodDescriptor "(I)V" = some ⟨[.int], none⟩ := by decide +kernel
theorem own_pd4 : parseMethodDescriptor "(II)I" = some ⟨[.int, .int], some .int⟩ := by decide +kernel
theorem own_d1_0 : decode method_2_code 0 = .ok (.iload_n 0, 1) := by decide +kernel
theorem own_d1_1 : decode method_2_code 1 = .ok (.iconst 3, 1) := by decide +kernel
theorem own_d1_2 : decode method_2_code 2 = .ok (.iand, 1) := by decide +kernel
theorem own_d1_3 : decode method_2_code 3 = .ok (.istore_n 1, 1) := by decide +kernel
theorem own_d1_4 : decode method_2_code 4 = .ok (.iload_n 1, 1) := by decide +kernel
theorem own_d1_5 : decode method_2_code 5 = .ok (.ifCond .ne 6, 3) := by decide +kernel
theorem own_d1_8 : decode method_2_code 8 = .ok (.bipush 13, 2) := by decide +kernel
theorem own_d1_10 : decode method_2_code 10 = .ok (.ireturn, 1) := by decide +kernel
theorem own_d1_11 : decode method_2_code 11 = .ok (.iload_n 1, 1) := by decide +kernel
theorem own_d1_12 : decode method_2_code 12 = .ok (.iconst 1, 1) := by decide +kernel
theorem own_d1_13 : decode method_2_code 13 = .ok (.if_icmp .ne 6, 3) := by decide +kernel
theorem own_d1_16 : decode method_2_code 16 = .ok (.bipush 10, 2) := by decide +kernel
theorem own_d1_18 : decode method_2_code 18 = .ok (.ireturn, 1) := by decide +kernel
theorem own_d1_19 : decode method_2_code 19 = .ok (.iload_n 1, 1) := by decide +kernel
theorem own_d1_20 : decode method_2_code 20 = .ok (.iconst 2, 1) := by decide +kernel
theorem own_d1_21 : decode method_2_code 21 = .ok (.if_icmp .ne 5, 3) := by decide +kernel
theorem own_d1_24 : decode method_2_code 24 = .ok (.iconst (-1), 1) := by decide +kernel
theorem own_d1_25 : decode method_2_code 25 = .ok (.ireturn, 1) := by decide +kernel
theorem own_d1_26 : decode method_2_code 26 = .ok (.iload_n 0, 1) := by decide +kernel
theorem own_d1_27 : decode method_2_code 27 = .ok (.iconst 2, 1) := by decide +kernel
theorem own_d1_28 : decode method_2_code 28 = .ok (.ishr, 1) := by decide +kernel
theorem own_d1_29 : decode method_2_code 29 = .ok (.ireturn, 1) := by decide +kernel
theorem own_ef_own_rm1 (m : MethodId) (x0 : Int32) : entryFrame m #[(.int x0)] 2 = mkF m 0 #[.val (.int x0), .unset] [] := by first | (simp [entryFrame, mkF, argsToLocals, Value.category]; done) | rfl
def own_Q1 (Z : State) (p_1 : Int32) (h0 : Heap) (n0 : Nat) (v : Option Value) (h : Heap) (L : List Loc) : Prop := ∃ (r : Int32), v = some (.int r) ∧ Fr n0 L ∧ h = h0
set_option maxRecDepth 65536 in
set_option maxHeartbeats 40000000 in
theorem own_rm1 (l : Launch) (Z : State) (a0 : Array Value) (hw : ∀ d ∈ tables_1, d.before a0 Z = true) (ws : List Jvm.Cond) (p_1 : Int32) (h0 : Heap) (n0 : Nat) (Z0 : n0 ≤ h0.size) :
    MetFree l (⟨"com/example/orderly_storefront/orderlystorefront/catalog/LinesCountPinLaw", "pick", "(I)I"⟩ : MethodName) (head1 (Jvm.Cond.code (⟨"com/example/orderly_storefront/orderlystorefront/catalog/LinesCountPinLaw", "pick", "(I)I"⟩ : MethodName) method_2_code 2 (some .int) :: ws) ({ frames := 0, cells := 0, slots := 0, locals := 0 } : Room)) (fun a U => a = #[(.int p_1)] ∧ Z.Warmed39 U.vm ∧ U.heap = h0) (fun _ _ _ _ _ => True) (fun _ U o U' => ∃ v L, o = .returned v ∧ own_Q1 Z p_1 h0 n0 v U'.heap L ∧ FrameEnd U o U' L ({ frames := 0, cells := 0, slots := 0, locals := 0 } : Room).cells ({ frames := 0, cells := 0, slots := 0, locals := 0 } : Room).slots) := by
  refine MetFree.of_bodySF (plainFor_of_name own_pn0) hisR ?_
  intro p e s m args below meth c s₁ Bd hml0 hP hK
  obtain ⟨rfl, hZ, hh⟩ := hP
  have hx := Bd.exec
  have hby := Bd.bytes
  have hml : c.maxLocals = 2 := hml0
  have hown : s.vm.findClass "com/example/orderly_storefront/orderlystorefront/catalog/LinesCountPinLaw" = some m.cls := findClass_of_methodNamed Bd.named
  have hnm := (name_of_methodNamed Bd.named Bd.method).1
  have X0 : Stand p l e ({ frames := 0, cells := 0, slots := 0, locals := 0 } : Room) s m #[(.int p_1)] below meth c s₁ [] 0 0 := Stand.of_body Bd
  have e0 : s₁.heap = h0 := by rw [← hh, Bd.state]; rfl
  have N0 := Fr.nil n0
  have z0 : n0 ≤ h0.size := Z0
  show own_Go p.tables e below (fun t o => t.status = .running ∧ Ended t below o ∧ ∃ v L, o = .returned v ∧ own_Q1 Z p_1 h0 n0 v t.heap L ∧ FrameEnd s o t L ({ frames := 0, cells := 0, slots := 0, locals := 0 } : Room).cells ({ frames := 0, cells := 0, slots := 0, locals := 0 } : Room).slots) s₁ (entryFrame m #[(.int p_1)] 2)
  rw [own_ef_own_rm1 m p_1]
  show own_Go _ _ _ _ s₁ (mkF m 0 #[.val (.int p_1), .unset] [])
  refine own_go (fun _ k => XS.iloadN X0.here hx rfl (hb hby own_d1_0) rfl k) ?_
  show own_Go _ _ _ _ s₁ (mkF m 1 #[.val (.int p_1), .unset] [(.int p_1)])
  refine own_go (fun _ k => XS.iconst X0.here hx rfl (hb hby own_d1_1) k) ?_
  show own_Go _ _ _ _ s₁ (mkF m 2 #[.val (.int p_1), .unset] [(.int (3 : Int32)), (.int p_1)])
  refine own_go (fun _ k => XS.iand X0.here hx rfl (hb hby own_d1_2) rfl k) ?_
  show own_Go _ _ _ _ s₁ (mkF m 3 #[.val (.int p_1), .unset] [(.int (p_1 &&& (3 : Int32)))])
  refine own_go (fun _ k => XS.istoreN X0.here hx rfl (hb hby own_d1_3) rfl (l' := #[.val (.int p_1), .val (.int (p_1 &&& (3 : Int32)))]) rfl k) ?_
  show own_Go _ _ _ _ s₁ (mkF m 4 #[.val (.int p_1), .val (.int (p_1 &&& (3 : Int32)))] [])
  refine own_go (fun _ k => XS.iloadN X0.here hx rfl (hb hby own_d1_4) rfl k) ?_
  show own_Go _ _ _ _ s₁ (mkF m 5 #[.val (.int p_1), .val (.int (p_1 &&& (3 : Int32)))] [(.int (p_1 &&& (3 : Int32)))])
  by_cases hc1 : (p_1 &&& (3 : Int32)) = 0
  · refine own_go (fun _ k => XS.ifNo X0.here hx rfl (hb hby own_d1_5) rfl (Jvm.Free.XT.i0_ne_f hc1) k) ?_
    show own_Go _ _ _ _ s₁ (mkF m 8 #[.val (.int p_1), .val (.int (p_1 &&& (3 : Int32)))] [])
    refine own_go (fun _ k => XS.bipush X0.here hx rfl (hb hby own_d1_8) k) ?_
    show own_Go _ _ _ _ s₁ (mkF m 10 #[.val (.int p_1), .val (.int (p_1 &&& (3 : Int32)))] [(.int (13 : Int32))])
    obtain ⟨fs, hr, hrun, hended, hW, hsame⟩ := X0.leave (v := some (.int (13 : Int32))) (fun h => by rw [Bd.returns] at h; cases h)
    refine ⟨_, _, retOut X0 hx Bd.returns rfl (Or.inl ⟨rfl, Or.inl rfl, _, rfl⟩) (hb hby own_d1_10) hr, hrun, hended, _, _, rfl, ?_, ⟨_, rfl⟩, hW, hsame.mono (by decide) (by decide)⟩
    show own_Q1 Z p_1 h0 n0 _ s₁.heap _
    rw [e0]
    exact ⟨(13 : Int32), rfl, N0, rfl⟩
  · refine own_go (fun _ k => XS.ifYes X0.here hx rfl (pc0 := 5) (pc' := 11) rfl (hb hby own_d1_5) rfl (Jvm.Free.XT.i0_ne_t hc1) (by decide) (by decide) k) ?_
    show own_Go _ _ _ _ s₁ (mkF m 11 #[.val (.int p_1), .val (.int (p_1 &&& (3 : Int32)))] [])
    refine own_go (fun _ k => XS.iloadN X0.here hx rfl (hb hby own_d1_11) rfl k) ?_
    show own_Go _ _ _ _ s₁ (mkF m 12 #[.val (.int p_1), .val (.int (p_1 &&& (3 : Int32)))] [(.int (p_1 &&& (3 : Int32)))])
    refine own_go (fun _ k => XS.iconst X0.here hx rfl (hb hby own_d1_12) k) ?_
    show own_Go _ _ _ _ s₁ (mkF m 13 #[.val (.int p_1), .val (.int (p_1 &&& (3 : Int32)))] [(.int (1 : Int32)), (.int (p_1 &&& (3 : Int32)))])
    by_cases hc3 : (p_1 &&& (3 : Int32)) = (1 : Int32)
    · refine own_go (fun _ k => XS.icmpNo X0.here hx rfl (hb hby own_d1_13) rfl (Jvm.Free.XT.ii_ne_f hc3) k) ?_
      show own_Go _ _ _ _ s₁ (mkF m 16 #[.val (.int p_1), .val (.int (p_1 &&& (3 : Int32)))] [])
      refine own_go (fun _ k => XS.bipush X0.here hx rfl (hb hby own_d1_16) k) ?_
      show own_Go _ _ _ _ s₁ (mkF m 18 #[.val (.int p_1), .val (.int (p_1 &&& (3 : Int32)))] [(.int (10 : Int32))])
      obtain ⟨fs, hr, hrun, hended, hW, hsame⟩ := X0.leave (v := some (.int (10 : Int32))) (fun h => by rw [Bd.returns] at h; cases h)
      refine ⟨_, _, retOut X0 hx Bd.returns rfl (Or.inl ⟨rfl, Or.inl rfl, _, rfl⟩) (hb hby own_d1_18) hr, hrun, hended, _, _, rfl, ?_, ⟨_, rfl⟩, hW, hsame.mono (by decide) (by decide)⟩
      show own_Q1 Z p_1 h0 n0 _ s₁.heap _
      rw [e0]
      exact ⟨(10 : Int32), rfl, N0, rfl⟩
    · refine own_go (fun _ k => XS.icmpYes X0.here hx rfl (pc0 := 13) (pc' := 19) rfl (hb hby own_d1_13) rfl (Jvm.Free.XT.ii_ne_t hc3) (by decide) (by decide) k) ?_
      show own_Go _ _ _ _ s₁ (mkF m 19 #[.val (.int p_1), .val (.int (p_1 &&& (3 : Int32)))] [])
      refine own_go (fun _ k => XS.iloadN X0.here hx rfl (hb hby own_d1_19) rfl k) ?_
      show own_Go _ _ _ _ s₁ (mkF m 20 #[.val (.int p_1), .val (.int (p_1 &&& (3 : Int32)))] [(.int (p_1 &&& (3 : Int32)))])
      refine own_go (fun _ k => XS.iconst X0.here hx rfl (hb hby own_d1_20) k) ?_
      show own_Go _ _ _ _ s₁ (mkF m 21 #[.val (.int p_1), .val (.int (p_1 &&& (3 : Int32)))] [(.int (2 : Int32)), (.int (p_1 &&& (3 : Int32)))])
      by_cases hc5 : (p_1 &&& (3 : Int32)) = (2 : Int32)
      · refine own_go (fun _ k => XS.icmpNo X0.here hx rfl (hb hby own_d1_21) rfl (Jvm.Free.XT.ii_ne_f hc5) k) ?_
        show own_Go _ _ _ _ s₁ (mkF m 24 #[.val (.int p_1), .val (.int (p_1 &&& (3 : Int32)))] [])
        refine own_go (fun _ k => XS.iconst X0.here hx rfl (hb hby own_d1_24) k) ?_
        show own_Go _ _ _ _ s₁ (mkF m 25 #[.val (.int p_1), .val (.int (p_1 &&& (3 : Int32)))] [(.int (-1 : Int32))])
        obtain ⟨fs, hr, hrun, hended, hW, hsame⟩ := X0.leave (v := some (.int (-1 : Int32))) (fun h => by rw [Bd.returns] at h; cases h)
        refine ⟨_, _, retOut X0 hx Bd.returns rfl (Or.inl ⟨rfl, Or.inl rfl, _, rfl⟩) (hb hby own_d1_25) hr, hrun, hended, _, _, rfl, ?_, ⟨_, rfl⟩, hW, hsame.mono (by decide) (by decide)⟩
        show own_Q1 Z p_1 h0 n0 _ s₁.heap _
        rw [e0]
        exact ⟨(-1 : Int32), rfl, N0, rfl⟩
      · refine own_go (fun _ k => XS.icmpYes X0.here hx rfl (pc0 := 21) (pc' := 26) rfl (hb hby own_d1_21) rfl (Jvm.Free.XT.ii_ne_t hc5) (by decide) (by decide) k) ?_
        show own_Go _ _ _ _ s₁ (mkF m 26 #[.val (.int p_1), .val (.int (p_1 &&& (3 : Int32)))] [])
        refine own_go (fun _ k => XS.iloadN X0.here hx rfl (hb hby own_d1_26) rfl k) ?_
        show own_Go _ _ _ _ s₁ (mkF m 27 #[.val (.int p_1), .val (.int (p_1 &&& (3 : Int32)))] [(.int p_1)])
        refine own_go (fun _ k => XS.iconst X0.here hx rfl (hb hby own_d1_27) k) ?_
        show own_Go _ _ _ _ s₁ (mkF m 28 #[.val (.int p_1), .val (.int (p_1 &&& (3 : Int32)))] [(.int (2 : Int32)), (.int p_1)])
        refine own_go (fun _ k => XS.ishr X0.here hx rfl (hb hby own_d1_28) rfl k) ?_
        show own_Go _ _ _ _ s₁ (mkF m 29 #[.val (.int p_1), .val (.int (p_1 &&& (3 : Int32)))] [(.int (p_1 >>> ((2 : Int32) &&& 31)))])
        obtain ⟨fs, hr, hrun, hended, hW, hsame⟩ := X0.leave (v := some (.int (p_1 >>> ((2 : Int32) &&& 31)))) (fun h => by rw [Bd.returns] at h; cases h)
        refine ⟨_, _, retOut X0 hx Bd.returns rfl (Or.inl ⟨rfl, Or.inl rfl, _, rfl⟩) (hb hby own_d1_29) hr, hrun, hended, _, _, rfl, ?_, ⟨_, rfl⟩, hW, hsame.mono (by decide) (by decide)⟩
        show own_Q1 Z p_1 h0 n0 _ s₁.heap _
        rw [e0]
        exact ⟨(p_1 >>> ((2 : Int32) &&& 31)), rfl, N0, rfl⟩
theorem own_d2_0 : decode prog_16_method_1_code 0 = .ok (.aload_n 0, 1) := by decide +kernel
theorem own_d2_1 : decode prog_16_method_1_code 1 = .ok (.invokespecial 3, 3) := by decide +kernel
theorem own_d2_4 : decode prog_16_method_1_code 4 = .ok (.aload_n 0, 1) := by decide +kernel
theorem own_d2_5 : decode prog_16_method_1_code 5 = .ok (.iconst 1, 1) := by decide +kernel
theorem own_d2_6 : decode prog_16_method_1_code 6 = .ok (.putfield 9, 3) := by decide +kernel
theorem own_d2_9 : decode prog_16_method_1_code 9 = .ok (.aload_n 0, 1) := by decide +kernel
theorem own_d2_10 : decode prog_16_method_1_code 10 = .ok (.iconst (-1), 1) := by decide +kernel
theorem own_d2_11 : decode prog_16_method_1_code 11 = .ok (.putfield 15, 3) := by decide +kernel
theorem own_d2_14 : decode prog_16_method_1_code 14 = .ok (.return_, 1) := by decide +kernel
theorem own_ef_own_rm2 (m : MethodId) (x0 : Addr) : entryFrame m #[(.ref x0)] 1 = mkF m 0 #[.val (.ref x0)] [] := by first | (simp [entryFrame, mkF, argsToLocals, Value.category]; done) | rfl
def own_Q2 (Z : State) (a_1 : Addr) (w_current_a_1 : Int32) (w_previous_a_1 : Int32) (h0 : Heap) (n0 : Nat) (v : Option Value) (h : Heap) (L : List Loc) : Prop := v = none ∧ Fr n0 L ∧ Keep h0 h [a_1] ∧ Exa Z h a_1 "com/example/orderly_storefront/orderlystorefront/catalog/CsvReader$Lines" ∧ Fld Z h a_1 "com/example/orderly_storefront/orderlystorefront/catalog/CsvReader$Lines" "current" "I" (.int (1 : Int32)) ∧ Fld Z h a_1 "com/example/orderly_storefront/orderlystorefront/catalog/CsvReader$Lines" "previous" "I" (.int (-1 : Int32))
set_option maxRecDepth 65536 in
set_option maxHeartbeats 40000000 in
theorem own_rm2 (l : Launch) (Z : State) (a0 : Array Value) (hw : ∀ d ∈ tables_1, d.before a0 Z = true) (ws : List Jvm.Cond) (a_1 : Addr) (w_current_a_1 : Int32) (w_previous_a_1 : Int32) (h0 : Heap) (n0 : Nat) (Z0 : n0 ≤ h0.size) (pr_E_a_1 : Exa Z h0 a_1 "com/example/orderly_storefront/orderlystorefront/catalog/CsvReader$Lines") (pr_F_a_1_current : Fld Z h0 a_1 "com/example/orderly_storefront/orderlystorefront/catalog/CsvReader$Lines" "current" "I" (.int w_current_a_1)) (pr_F_a_1_previous : Fld Z h0 a_1 "com/example/orderly_storefront/orderlystorefront/catalog/CsvReader$Lines" "previous" "I" (.int w_previous_a_1)) (gw_a_1 : n0 ≤ a_1) :
    MetFree l (⟨"com/example/orderly_storefront/orderlystorefront/catalog/CsvReader$Lines", "<init>", "()V"⟩ : MethodName) (head1 (Jvm.Cond.code (⟨"com/example/orderly_storefront/orderlystorefront/catalog/CsvReader$Lines", "<init>", "()V"⟩ : MethodName) prog_16_method_1_code 1 none :: ws) ({ frames := 1, cells := 0, slots := 0, locals := 12 } : Room)) (fun a U => a = #[(.ref a_1)] ∧ Z.Warmed39 U.vm ∧ U.heap = h0) (fun _ _ _ _ _ => True) (fun _ U o U' => ∃ v L, o = .returned v ∧ own_Q2 Z a_1 w_current_a_1 w_previous_a_1 h0 n0 v U'.heap L ∧ FrameEnd U o U' L ({ frames := 1, cells := 0, slots := 0, locals := 12 } : Room).cells ({ frames := 1, cells := 0, slots := 0, locals := 12 } : Room).slots) := by
  refine MetFree.of_bodySF (plainFor_of_name own_pn1) hisR ?_
  intro p e s m args below meth c s₁ Bd hml0 hP hK
  obtain ⟨rfl, hZ, hh⟩ := hP
  have hx := Bd.exec
  have hby := Bd.bytes
  have hml : c.maxLocals = 1 := hml0
  have hown : s.vm.findClass "com/example/orderly_storefront/orderlystorefront/catalog/CsvReader$Lines" = some m.cls := findClass_of_methodNamed Bd.named
  have hnm := (name_of_methodNamed Bd.named Bd.method).1
  have X0 : Stand p l e ({ frames := 1, cells := 0, slots := 0, locals := 12 } : Room) s m #[(.ref a_1)] below meth c s₁ [] 0 0 := Stand.of_body Bd
  have e0 : s₁.heap = h0 := by rw [← hh, Bd.state]; rfl
  have N0 := Fr.nil n0
  have z0 : n0 ≤ h0.size := Z0
  have z1 := own_lt pr_E_a_1.lt
  have z2 := own_lt pr_F_a_1_current.lt
  have z3 := own_lt pr_F_a_1_previous.lt
  have K0 : Keep h0 h0 [a_1] := Keep.refl h0 _
  show own_Go p.tables e below (fun t o => t.status = .running ∧ Ended t below o ∧ ∃ v L, o = .returned v ∧ own_Q2 Z a_1 w_current_a_1 w_previous_a_1 h0 n0 v t.heap L ∧ FrameEnd s o t L ({ frames := 1, cells := 0, slots := 0, locals := 12 } : Room).cells ({ frames := 1, cells := 0, slots := 0, locals := 12 } : Room).slots) s₁ (entryFrame m #[(.ref a_1)] 1)
  rw [own_ef_own_rm2 m a_1]
  show own_Go _ _ _ _ s₁ (mkF m 0 #[.val (.ref a_1)] [])
  refine own_go (fun _ k => XS.aloadN X0.here hx rfl (hb hby own_d2_0) rfl rfl k) ?_
  show own_Go _ _ _ _ s₁ (mkF m 1 #[.val (.ref a_1)] [(.ref a_1)])
  obtain ⟨T4, X4, e4, st4⟩ := initO X0 hx hZ hown (hw _ (List.mem_of_getElem? (i := 10) rfl)) (hw _ (List.mem_of_getElem? (i := 11) rfl)) (hw _ (List.mem_of_getElem? (i := 12) rfl)) e0 (g := (mkF m 1 #[.val (.ref a_1)] [(.ref a_1)])) rfl (by rw [hml]; rfl) rfl (hb hby own_d2_1) (by decide) (W := 0) (by show 2 * 0 + _ ≤ _; exact Nat.le_of_eq rfl) (by decide)
  refine own_go (fun _ k => st4 _ k) ?_
  show own_Go _ _ _ _ T4 (mkF m 4 #[.val (.ref a_1)] [])
  refine own_go (fun _ k => XS.aloadN X4.here hx rfl (hb hby own_d2_4) rfl rfl k) ?_
  show own_Go _ _ _ _ T4 (mkF m 5 #[.val (.ref a_1)] [(.ref a_1)])
  refine own_go (fun _ k => XS.iconst X4.here hx rfl (hb hby own_d2_5) k) ?_
  show own_Go _ _ _ _ T4 (mkF m 6 #[.val (.ref a_1)] [(.int (1 : Int32)), (.ref a_1)])
  obtain ⟨T5, h5, X5, e5, W5, st5⟩ := putF X4 hx hZ hown (host := "") (Or.inl (hw _ (List.mem_of_getElem? (i := 13) rfl))) Via.refl e4 pr_F_a_1_current pr_E_a_1 (Or.inl (hw _ (List.mem_of_getElem? (i := 14) rfl))) (hw _ (List.mem_of_getElem? (i := 5) rfl)) (ty := .int) (by decide) rfl rfl (g := (mkF m 6 #[.val (.ref a_1)] [(.int (1 : Int32)), (.ref a_1)])) rfl rfl (hb hby own_d2_6)
  have z6 := W5.size
  have K5 : Keep h0 h5 [a_1] := K0.wr W5 (Or.inl (List.mem_of_getElem? (i := 0) rfl))
  have N5 := Fr.snoc X5 N0 (by omega : n0 ≤ a_1)
  have Fw5 : Fld Z h5 a_1 "com/example/orderly_storefront/orderlystorefront/catalog/CsvReader$Lines" "current" "I" (.int (1 : Int32)) := Fld.same W5 pr_F_a_1_current
  refine own_go (fun _ k => st5 _ k) ?_
  show own_Go _ _ _ _ T5 (mkF m 9 #[.val (.ref a_1)] [])
  refine own_go (fun _ k => XS.aloadN X5.here hx rfl (hb hby own_d2_9) rfl rfl k) ?_
  show own_Go _ _ _ _ T5 (mkF m 10 #[.val (.ref a_1)] [(.ref a_1)])
  refine own_go (fun _ k => XS.iconst X5.here hx rfl (hb hby own_d2_10) k) ?_
  show own_Go _ _ _ _ T5 (mkF m 11 #[.val (.ref a_1)] [(.int (-1 : Int32)), (.ref a_1)])
  have f7 : Exa Z h5 a_1 "com/example/orderly_storefront/orderlystorefront/catalog/CsvReader$Lines" := (pr_E_a_1.wr W5)
  have f8 : Fld Z h5 a_1 "com/example/orderly_storefront/orderlystorefront/catalog/CsvReader$Lines" "previous" "I" (.int w_previous_a_1) := (pr_F_a_1_previous.other W5 (Or.inr (slot_ne (Or.inl (hw _ (List.mem_of_getElem? (i := 16) rfl))) (Or.inl (hw _ (List.mem_of_getElem? (i := 14) rfl))) (by decide) (t := .int) (t' := .int) (by decide) (by decide))))
  obtain ⟨T9, h9, X9, e9, W9, st9⟩ := putF X5 hx hZ hown (host := "") (Or.inl (hw _ (List.mem_of_getElem? (i := 15) rfl))) Via.refl e5 f8 f7 (Or.inl (hw _ (List.mem_of_getElem? (i := 16) rfl))) (hw _ (List.mem_of_getElem? (i := 5) rfl)) (ty := .int) (by decide) rfl rfl (g := (mkF m 11 #[.val (.ref a_1)] [(.int (-1 : Int32)), (.ref a_1)])) rfl rfl (hb hby own_d2_11)
  have z10 := W9.size
  have K9 : Keep h0 h9 [a_1] := K5.wr W9 (Or.inl (List.mem_of_getElem? (i := 0) rfl))
  have N9 := Fr.snoc X9 N5 (by omega : n0 ≤ a_1)
  have Fw9 : Fld Z h9 a_1 "com/example/orderly_storefront/orderlystorefront/catalog/CsvReader$Lines" "previous" "I" (.int (-1 : Int32)) := Fld.same W9 f8
  refine own_go (fun _ k => st9 _ k) ?_
  show own_Go _ _ _ _ T9 (mkF m 14 #[.val (.ref a_1)] [])
  obtain ⟨fs, hr, hrun, hended, hW, hsame⟩ := X9.leave (v := none) (fun _ => rfl)
  refine ⟨_, _, X9.returnOut hx Bd.returns (hb hby own_d2_14) hr, hrun, hended, _, _, rfl, ?_, ⟨_, rfl⟩, hW, hsame.mono (by decide) (by decide)⟩
  show own_Q2 Z a_1 w_current_a_1 w_previous_a_1 h0 n0 _ T9.heap _
  rw [e9]
  have f12 : Exa Z h9 a_1 "com/example/orderly_storefront/orderlystorefront/catalog/CsvReader$Lines" := (f7.wr W9)
  have f13 : Fld Z h9 a_1 "com/example/orderly_storefront/orderlystorefront/catalog/CsvReader$Lines" "current" "I" (.int (1 : Int32)) := (Fw5.other W9 (Or.inr (slot_ne (Or.inl (hw _ (List.mem_of_getElem? (i := 14) rfl))) (Or.inl (hw _ (List.mem_of_getElem? (i := 16) rfl))) (by decide) (t := .int) (t' := .int) (by decide) (by decide))))
  exact ⟨rfl, N9, K9, f12, f13, Fw9⟩
theorem own_d4_0 : decode prog_16_method_3_code 0 = .ok (.aload_n 0, 1) := by decide +kernel
theorem own_d4_1 : decode prog_16_method_3_code 1 = .ok (.getfield 9, 3) := by decide +kernel
theorem own_d4_4 : decode prog_16_method_3_code 4 = .ok (.ireturn, 1) := by decide +kernel
theorem own_ef_own_rm4 (m : MethodId) (x0 : Addr) : entryFrame m #[(.ref x0)] 1 = mkF m 0 #[.val (.ref x0)] [] := by first | (simp [entryFrame, mkF, argsToLocals, Value.category]; done) | rfl
def own_Q4 (Z : State) (a_1 : Addr) (w_current_a_1 : Int32) (h0 : Heap) (n0 : Nat) (v : Option Value) (h : Heap) (L : List Loc) : Prop := v = some (.int w_current_a_1) ∧ Fr n0 L ∧ h = h0
set_option maxRecDepth 65536 in
set_option maxHeartbeats 40000000 in
theorem own_rm4 (l : Launch) (Z : State) (a0 : Array Value) (hw : ∀ d ∈ tables_1, d.before a0 Z = true) (ws : List Jvm.Cond) (a_1 : Addr) (w_current_a_1 : Int32) (h0 : Heap) (n0 : Nat) (Z0 : n0 ≤ h0.size) (pr_F_a_1_current : Fld Z h0 a_1 "com/example/orderly_storefront/orderlystorefront/catalog/CsvReader$Lines" "current" "I" (.int w_current_a_1)) :
    MetFree l (⟨"com/example/orderly_storefront/orderlystorefront/catalog/CsvReader$Lines", "current", "()I"⟩ : MethodName) (head1 (Jvm.Cond.code (⟨"com/example/orderly_storefront/orderlystorefront/catalog/CsvReader$Lines", "current", "()I"⟩ : MethodName) prog_16_method_3_code 1 (some .int) :: ws) ({ frames := 0, cells := 0, slots := 0, locals := 0 } : Room)) (fun a U => a = #[(.ref a_1)] ∧ Z.Warmed39 U.vm ∧ U.heap = h0) (fun _ _ _ _ _ => True) (fun _ U o U' => ∃ v L, o = .returned v ∧ own_Q4 Z a_1 w_current_a_1 h0 n0 v U'.heap L ∧ FrameEnd U o U' L ({ frames := 0, cells := 0, slots := 0, locals := 0 } : Room).cells ({ frames := 0, cells := 0, slots := 0, locals := 0 } : Room).slots) := by
  refine MetFree.of_bodySF (plainFor_of_name own_pn1) hisR ?_
  intro p e s m args below meth c s₁ Bd hml0 hP hK
  obtain ⟨rfl, hZ, hh⟩ := hP
  have hx := Bd.exec
  have hby := Bd.bytes
  have hml : c.maxLocals = 1 := hml0
  have hown : s.vm.findClass "com/example/orderly_storefront/orderlystorefront/catalog/CsvReader$Lines" = some m.cls := findClass_of_methodNamed Bd.named
  have hnm := (name_of_methodNamed Bd.named Bd.method).1
  have X0 : Stand p l e ({ frames := 0, cells := 0, slots := 0, locals := 0 } : Room) s m #[(.ref a_1)] below meth c s₁ [] 0 0 := Stand.of_body Bd
  have e0 : s₁.heap = h0 := by rw [← hh, Bd.state]; rfl
  have N0 := Fr.nil n0
  have z0 : n0 ≤ h0.size := Z0
  have z1 := own_lt pr_F_a_1_current.lt
  show own_Go p.tables e below (fun t o => t.status = .running ∧ Ended t below o ∧ ∃ v L, o = .returned v ∧ own_Q4 Z a_1 w_current_a_1 h0 n0 v t.heap L ∧ FrameEnd s o t L ({ frames := 0, cells := 0, slots := 0, locals := 0 } : Room).cells ({ frames := 0, cells := 0, slots := 0, locals := 0 } : Room).slots) s₁ (entryFrame m #[(.ref a_1)] 1)
  rw [own_ef_own_rm4 m a_1]
  show own_Go _ _ _ _ s₁ (mkF m 0 #[.val (.ref a_1)] [])
  refine own_go (fun _ k => XS.aloadN X0.here hx rfl (hb hby own_d4_0) rfl rfl k) ?_
  show own_Go _ _ _ _ s₁ (mkF m 1 #[.val (.ref a_1)] [(.ref a_1)])
  obtain ⟨T2, X2, e2, st2⟩ := getF X0 hx hZ hown (host := "") (Or.inl (hw _ (List.mem_of_getElem? (i := 13) rfl))) Via.refl e0 pr_F_a_1_current (g := (mkF m 1 #[.val (.ref a_1)] [(.ref a_1)])) rfl rfl (hb hby own_d4_1)
  refine own_go (fun _ k => st2 _ k) ?_
  show own_Go _ _ _ _ T2 (mkF m 4 #[.val (.ref a_1)] [(.int w_current_a_1)])
  obtain ⟨fs, hr, hrun, hended, hW, hsame⟩ := X2.leave (v := some (.int w_current_a_1)) (fun h => by rw [Bd.returns] at h; cases h)
  refine ⟨_, _, retOut X2 hx Bd.returns rfl (Or.inl ⟨rfl, Or.inl rfl, _, rfl⟩) (hb hby own_d4_4) hr, hrun, hended, _, _, rfl, ?_, ⟨_, rfl⟩, hW, hsame.mono (by decide) (by decide)⟩
  show own_Q4 Z a_1 w_current_a_1 h0 n0 _ T2.heap _
  rw [e2]
  exact ⟨rfl, N0, rfl⟩
theorem own_d5_0 : decode prog_16_method_2_code 0 = .ok (.iload_n 1, 1) := by decide +kernel
theorem own_d5_1 : decode prog_16_method_2_code 1 = .ok (.bipush 13, 2) := by decide +kernel
theorem own_d5_3 : decode prog_16_method_2_code 3 = .ok (.if_icmp .eq 18, 3) := by decide +kernel
theorem own_d5_6 : decode prog_16_method_2_code 6 = .ok (.iload_n 1, 1) := by decide +kernel
theorem own_d5_7 : decode prog_16_method_2_code 7 = .ok (.bipush 10, 2) := by decide +kernel
theorem own_d5_9 : decode prog_16_method_2_code 9 = .ok (.if_icmp .ne 22, 3) := by decide +kernel
theorem own_d5_12 : decode prog_16_method_2_code 12 = .ok (.aload_n 0, 1) := by decide +kernel
theorem own_d5_13 : decode prog_16_method_2_code 13 = .ok (.getfield 15, 3) := by decide +kernel
theorem own_d5_16 : decode prog_16_method_2_code 16 = .ok (.bipush 13, 2) := by decide +kernel
theorem own_d5_18 : decode prog_16_method_2_code 18 = .ok (.if_icmp .eq 13, 3) := by decide +kernel
theorem own_d5_21 : decode prog_16_method_2_code 21 = .ok (.aload_n 0, 1) := by decide +kernel
theorem own_d5_22 : decode prog_16_method_2_code 22 = .ok (.dup, 1) := by decide +kernel
theorem own_d5_23 : decode prog_16_method_2_code 23 = .ok (.getfield 9, 3) := by decide +kernel
theorem own_d5_26 : decode prog_16_method_2_code 26 = .ok (.iconst 1, 1) := by decide +kernel
theorem own_d5_27 : decode prog_16_method_2_code 27 = .ok (.iadd, 1) := by decide +kernel
theorem own_d5_28 : decode prog_16_method_2_code 28 = .ok (.putfield 9, 3) := by decide +kernel
theorem own_d5_31 : decode prog_16_method_2_code 31 = .ok (.aload_n 0, 1) := by decide +kernel
theorem own_d5_32 : decode prog_16_method_2_code 32 = .ok (.iload_n 1, 1) := by decide +kernel
theorem own_d5_33 : decode prog_16_method_2_code 33 = .ok (.putfield 15, 3) := by decide +kernel
theorem own_d5_36 : decode prog_16_method_2_code 36 = .ok (.return_, 1) := by decide +kernel
theorem own_ef_own_rm5 (m : MethodId) (x0 : Addr) (x1 : Int32) : entryFrame m #[(.ref x0), (.int x1)] 2 = mkF m 0 #[.val (.ref x0), .val (.int x1)] [] := by first | (simp [entryFrame, mkF, argsToLocals, Value.category]; done) | rfl
def own_rm5_current (p_2 : Int32) (w_current_a_1 : Int32) (w_previous_a_1 : Int32) : Int32 := if p_2 = (13 : Int32) then (w_current_a_1 + (1 : Int32)) else if p_2 = (10 : Int32) then (if w_previous_a_1 = (13 : Int32) then w_current_a_1 else (w_current_a_1 + (1 : Int32))) else w_current_a_1
def own_Q5 (Z : State) (a_1 : Addr) (p_2 : Int32) (w_current_a_1 : Int32) (w_previous_a_1 : Int32) (h0 : Heap) (n0 : Nat) (v : Option Value) (h : Heap) (L : List Loc) : Prop := v = none ∧ Fr n0 L ∧ Keep h0 h [a_1] ∧ Fld Z h a_1 "com/example/orderly_storefront/orderlystorefront/catalog/CsvReader$Lines" "current" "I" (.int (own_rm5_current p_2 w_current_a_1 w_previous_a_1)) ∧ Exa Z h a_1 "com/example/orderly_storefront/orderlystorefront/catalog/CsvReader$Lines" ∧ Fld Z h a_1 "com/example/orderly_storefront/orderlystorefront/catalog/CsvReader$Lines" "previous" "I" (.int p_2)
set_option maxRecDepth 65536 in
set_option maxHeartbeats 40000000 in
theorem own_rm5 (l : Launch) (Z : State) (a0 : Array Value) (hw : ∀ d ∈ tables_1, d.before a0 Z = true) (ws : List Jvm.Cond) (a_1 : Addr) (p_2 : Int32) (w_current_a_1 : Int32) (w_previous_a_1 : Int32) (h0 : Heap) (n0 : Nat) (Z0 : n0 ≤ h0.size) (pr_F_a_1_current : Fld Z h0 a_1 "com/example/orderly_storefront/orderlystorefront/catalog/CsvReader$Lines" "current" "I" (.int w_current_a_1)) (pr_E_a_1 : Exa Z h0 a_1 "com/example/orderly_storefront/orderlystorefront/catalog/CsvReader$Lines") (pr_F_a_1_previous : Fld Z h0 a_1 "com/example/orderly_storefront/orderlystorefront/catalog/CsvReader$Lines" "previous" "I" (.int w_previous_a_1)) (gw_a_1 : n0 ≤ a_1) :
    MetFree l (⟨"com/example/orderly_storefront/orderlystorefront/catalog/CsvReader$Lines", "count", "(I)V"⟩ : MethodName) (head1 (Jvm.Cond.code (⟨"com/example/orderly_storefront/orderlystorefront/catalog/CsvReader$Lines", "count", "(I)V"⟩ : MethodName) prog_16_method_2_code 2 none :: ws) ({ frames := 0, cells := 0, slots := 0, locals := 0 } : Room)) (fun a U => a = #[(.ref a_1), (.int p_2)] ∧ Z.Warmed39 U.vm ∧ U.heap = h0) (fun _ _ _ _ _ => True) (fun _ U o U' => ∃ v L, o = .returned v ∧ own_Q5 Z a_1 p_2 w_current_a_1 w_previous_a_1 h0 n0 v U'.heap L ∧ FrameEnd U o U' L ({ frames := 0, cells := 0, slots := 0, locals := 0 } : Room).cells ({ frames := 0, cells := 0, slots := 0, locals := 0 } : Room).slots) := by
  refine MetFree.of_bodySF (plainFor_of_name own_pn1) hisR ?_
  intro p e s m args below meth c s₁ Bd hml0 hP hK
  obtain ⟨rfl, hZ, hh⟩ := hP
  have hx := Bd.exec
  have hby := Bd.bytes
  have hml : c.maxLocals = 2 := hml0
  have hown : s.vm.findClass "com/example/orderly_storefront/orderlystorefront/catalog/CsvReader$Lines" = some m.cls := findClass_of_methodNamed Bd.named
  have hnm := (name_of_methodNamed Bd.named Bd.method).1
  have X0 : Stand p l e ({ frames := 0, cells := 0, slots := 0, locals := 0 } : Room) s m #[(.ref a_1), (.int p_2)] below meth c s₁ [] 0 0 := Stand.of_body Bd
  have e0 : s₁.heap = h0 := by rw [← hh, Bd.state]; rfl
  have N0 := Fr.nil n0
  have z0 : n0 ≤ h0.size := Z0
  have z1 := own_lt pr_F_a_1_current.lt
  have z2 := own_lt pr_E_a_1.lt
  have z3 := own_lt pr_F_a_1_previous.lt
  have K0 : Keep h0 h0 [a_1] := Keep.refl h0 _
  show own_Go p.tables e below (fun t o => t.status = .running ∧ Ended t below o ∧ ∃ v L, o = .returned v ∧ own_Q5 Z a_1 p_2 w_current_a_1 w_previous_a_1 h0 n0 v t.heap L ∧ FrameEnd s o t L ({ frames := 0, cells := 0, slots := 0, locals := 0 } : Room).cells ({ frames := 0, cells := 0, slots := 0, locals := 0 } : Room).slots) s₁ (entryFrame m #[(.ref a_1), (.int p_2)] 2)
  rw [own_ef_own_rm5 m a_1 p_2]
  show own_Go _ _ _ _ s₁ (mkF m 0 #[.val (.ref a_1), .val (.int p_2)] [])
  refine own_go (fun _ k => XS.iloadN X0.here hx rfl (hb hby own_d5_0) rfl k) ?_
  show own_Go _ _ _ _ s₁ (mkF m 1 #[.val (.ref a_1), .val (.int p_2)] [(.int p_2)])
  refine own_go (fun _ k => XS.bipush X0.here hx rfl (hb hby own_d5_1) k) ?_
  show own_Go _ _ _ _ s₁ (mkF m 3 #[.val (.ref a_1), .val (.int p_2)] [(.int (13 : Int32)), (.int p_2)])
  by_cases hc4 : p_2 = (13 : Int32)
  · refine own_go (fun _ k => XS.icmpYes X0.here hx rfl (pc0 := 3) (pc' := 21) rfl (hb hby own_d5_3) rfl (Jvm.Free.XT.ii_eq_t hc4) (by decide) (by decide) k) ?_
    show own_Go _ _ _ _ s₁ (mkF m 21 #[.val (.ref a_1), .val (.int p_2)] [])
    refine own_go (fun _ k => XS.aloadN X0.here hx rfl (hb hby own_d5_21) rfl rfl k) ?_
    show own_Go _ _ _ _ s₁ (mkF m 22 #[.val (.ref a_1), .val (.int p_2)] [(.ref a_1)])
    refine own_go (fun _ k => XS.dup X0.here hx rfl (hb hby own_d5_22) rfl rfl k) ?_
    show own_Go _ _ _ _ s₁ (mkF m 23 #[.val (.ref a_1), .val (.int p_2)] [(.ref a_1), (.ref a_1)])
    obtain ⟨T5, X5, e5, st5⟩ := getF X0 hx hZ hown (host := "") (Or.inl (hw _ (List.mem_of_getElem? (i := 13) rfl))) Via.refl e0 pr_F_a_1_current (g := (mkF m 23 #[.val (.ref a_1), .val (.int p_2)] [(.ref a_1), (.ref a_1)])) rfl rfl (hb hby own_d5_23)
    refine own_go (fun _ k => st5 _ k) ?_
    show own_Go _ _ _ _ T5 (mkF m 26 #[.val (.ref a_1), .val (.int p_2)] [(.int w_current_a_1), (.ref a_1)])
    refine own_go (fun _ k => XS.iconst X5.here hx rfl (hb hby own_d5_26) k) ?_
    show own_Go _ _ _ _ T5 (mkF m 27 #[.val (.ref a_1), .val (.int p_2)] [(.int (1 : Int32)), (.int w_current_a_1), (.ref a_1)])
    refine own_go (fun _ k => XS.iadd X5.here hx rfl (hb hby own_d5_27) rfl k) ?_
    show own_Go _ _ _ _ T5 (mkF m 28 #[.val (.ref a_1), .val (.int p_2)] [(.int (w_current_a_1 + (1 : Int32))), (.ref a_1)])
    obtain ⟨T6, h6, X6, e6, W6, st6⟩ := putF X5 hx hZ hown (host := "") (Or.inl (hw _ (List.mem_of_getElem? (i := 13) rfl))) Via.refl e5 pr_F_a_1_current pr_E_a_1 (Or.inl (hw _ (List.mem_of_getElem? (i := 14) rfl))) (hw _ (List.mem_of_getElem? (i := 5) rfl)) (ty := .int) (by decide) rfl rfl (g := (mkF m 28 #[.val (.ref a_1), .val (.int p_2)] [(.int (w_current_a_1 + (1 : Int32))), (.ref a_1)])) rfl rfl (hb hby own_d5_28)
    have z7 := W6.size
    have K6 : Keep h0 h6 [a_1] := K0.wr W6 (Or.inl (List.mem_of_getElem? (i := 0) rfl))
    have N6 := Fr.snoc X6 N0 (by omega : n0 ≤ a_1)
    have Fw6 : Fld Z h6 a_1 "com/example/orderly_storefront/orderlystorefront/catalog/CsvReader$Lines" "current" "I" (.int (w_current_a_1 + (1 : Int32))) := Fld.same W6 pr_F_a_1_current
    refine own_go (fun _ k => st6 _ k) ?_
    show own_Go _ _ _ _ T6 (mkF m 31 #[.val (.ref a_1), .val (.int p_2)] [])
    refine own_go (fun _ k => XS.aloadN X6.here hx rfl (hb hby own_d5_31) rfl rfl k) ?_
    show own_Go _ _ _ _ T6 (mkF m 32 #[.val (.ref a_1), .val (.int p_2)] [(.ref a_1)])
    refine own_go (fun _ k => XS.iloadN X6.here hx rfl (hb hby own_d5_32) rfl k) ?_
    show own_Go _ _ _ _ T6 (mkF m 33 #[.val (.ref a_1), .val (.int p_2)] [(.int p_2), (.ref a_1)])
    have f8 : Exa Z h6 a_1 "com/example/orderly_storefront/orderlystorefront/catalog/CsvReader$Lines" := (pr_E_a_1.wr W6)
    have f9 : Fld Z h6 a_1 "com/example/orderly_storefront/orderlystorefront/catalog/CsvReader$Lines" "previous" "I" (.int w_previous_a_1) := (pr_F_a_1_previous.other W6 (Or.inr (slot_ne (Or.inl (hw _ (List.mem_of_getElem? (i := 16) rfl))) (Or.inl (hw _ (List.mem_of_getElem? (i := 14) rfl))) (by decide) (t := .int) (t' := .int) (by decide) (by decide))))
    obtain ⟨T10, h10, X10, e10, W10, st10⟩ := putF X6 hx hZ hown (host := "") (Or.inl (hw _ (List.mem_of_getElem? (i := 15) rfl))) Via.refl e6 f9 f8 (Or.inl (hw _ (List.mem_of_getElem? (i := 16) rfl))) (hw _ (List.mem_of_getElem? (i := 5) rfl)) (ty := .int) (by decide) rfl rfl (g := (mkF m 33 #[.val (.ref a_1), .val (.int p_2)] [(.int p_2), (.ref a_1)])) rfl rfl (hb hby own_d5_33)
    have z11 := W10.size
    have K10 : Keep h0 h10 [a_1] := K6.wr W10 (Or.inl (List.mem_of_getElem? (i := 0) rfl))
    have N10 := Fr.snoc X10 N6 (by omega : n0 ≤ a_1)
    have Fw10 : Fld Z h10 a_1 "com/example/orderly_storefront/orderlystorefront/catalog/CsvReader$Lines" "previous" "I" (.int p_2) := Fld.same W10 f9
    refine own_go (fun _ k => st10 _ k) ?_
    show own_Go _ _ _ _ T10 (mkF m 36 #[.val (.ref a_1), .val (.int p_2)] [])
    obtain ⟨fs, hr, hrun, hended, hW, hsame⟩ := X10.leave (v := none) (fun _ => rfl)
    refine ⟨_, _, X10.returnOut hx Bd.returns (hb hby own_d5_36) hr, hrun, hended, _, _, rfl, ?_, ⟨_, rfl⟩, hW, hsame.mono (by decide) (by decide)⟩
    show own_Q5 Z a_1 p_2 w_current_a_1 w_previous_a_1 h0 n0 _ T10.heap _
    rw [e10]
    have f13 : Fld Z h10 a_1 "com/example/orderly_storefront/orderlystorefront/catalog/CsvReader$Lines" "current" "I" (.int (w_current_a_1 + (1 : Int32))) := (Fw6.other W10 (Or.inr (slot_ne (Or.inl (hw _ (List.mem_of_getElem? (i := 14) rfl))) (Or.inl (hw _ (List.mem_of_getElem? (i := 16) rfl))) (by decide) (t := .int) (t' := .int) (by decide) (by decide))))
    have f14 : Exa Z h10 a_1 "com/example/orderly_storefront/orderlystorefront/catalog/CsvReader$Lines" := (f8.wr W10)
    exact ⟨rfl, N10, K10, (by have hh : (w_current_a_1 + (1 : Int32)) = (own_rm5_current p_2 w_current_a_1 w_previous_a_1) := (by first | rfl | simp only [own_rm5_current, if_pos hc4]); rw [← hh]; exact f13), f14, Fw10⟩
  · refine own_go (fun _ k => XS.icmpNo X0.here hx rfl (hb hby own_d5_3) rfl (Jvm.Free.XT.ii_eq_f hc4) k) ?_
    show own_Go _ _ _ _ s₁ (mkF m 6 #[.val (.ref a_1), .val (.int p_2)] [])
    refine own_go (fun _ k => XS.iloadN X0.here hx rfl (hb hby own_d5_6) rfl k) ?_
    show own_Go _ _ _ _ s₁ (mkF m 7 #[.val (.ref a_1), .val (.int p_2)] [(.int p_2)])
    refine own_go (fun _ k => XS.bipush X0.here hx rfl (hb hby own_d5_7) k) ?_
    show own_Go _ _ _ _ s₁ (mkF m 9 #[.val (.ref a_1), .val (.int p_2)] [(.int (10 : Int32)), (.int p_2)])
    by_cases hc15 : p_2 = (10 : Int32)
    · refine own_go (fun _ k => XS.icmpNo X0.here hx rfl (hb hby own_d5_9) rfl (Jvm.Free.XT.ii_ne_f hc15) k) ?_
      show own_Go _ _ _ _ s₁ (mkF m 12 #[.val (.ref a_1), .val (.int p_2)] [])
      refine own_go (fun _ k => XS.aloadN X0.here hx rfl (hb hby own_d5_12) rfl rfl k) ?_
      show own_Go _ _ _ _ s₁ (mkF m 13 #[.val (.ref a_1), .val (.int p_2)] [(.ref a_1)])
      obtain ⟨T16, X16, e16, st16⟩ := getF X0 hx hZ hown (host := "") (Or.inl (hw _ (List.mem_of_getElem? (i := 15) rfl))) Via.refl e0 pr_F_a_1_previous (g := (mkF m 13 #[.val (.ref a_1), .val (.int p_2)] [(.ref a_1)])) rfl rfl (hb hby own_d5_13)
      refine own_go (fun _ k => st16 _ k) ?_
      show own_Go _ _ _ _ T16 (mkF m 16 #[.val (.ref a_1), .val (.int p_2)] [(.int w_previous_a_1)])
      refine own_go (fun _ k => XS.bipush X16.here hx rfl (hb hby own_d5_16) k) ?_
      show own_Go _ _ _ _ T16 (mkF m 18 #[.val (.ref a_1), .val (.int p_2)] [(.int (13 : Int32)), (.int w_previous_a_1)])
      by_cases hc17 : w_previous_a_1 = (13 : Int32)
      · refine own_go (fun _ k => XS.icmpYes X16.here hx rfl (pc0 := 18) (pc' := 31) rfl (hb hby own_d5_18) rfl (Jvm.Free.XT.ii_eq_t hc17) (by decide) (by decide) k) ?_
        show own_Go _ _ _ _ T16 (mkF m 31 #[.val (.ref a_1), .val (.int p_2)] [])
        refine own_go (fun _ k => XS.aloadN X16.here hx rfl (hb hby own_d5_31) rfl rfl k) ?_
        show own_Go _ _ _ _ T16 (mkF m 32 #[.val (.ref a_1), .val (.int p_2)] [(.ref a_1)])
        refine own_go (fun _ k => XS.iloadN X16.here hx rfl (hb hby own_d5_32) rfl k) ?_
        show own_Go _ _ _ _ T16 (mkF m 33 #[.val (.ref a_1), .val (.int p_2)] [(.int p_2), (.ref a_1)])
        obtain ⟨T18, h18, X18, e18, W18, st18⟩ := putF X16 hx hZ hown (host := "") (Or.inl (hw _ (List.mem_of_getElem? (i := 15) rfl))) Via.refl e16 pr_F_a_1_previous pr_E_a_1 (Or.inl (hw _ (List.mem_of_getElem? (i := 16) rfl))) (hw _ (List.mem_of_getElem? (i := 5) rfl)) (ty := .int) (by decide) rfl rfl (g := (mkF m 33 #[.val (.ref a_1), .val (.int p_2)] [(.int p_2), (.ref a_1)])) rfl rfl (hb hby own_d5_33)
        have z19 := W18.size
        have K18 : Keep h0 h18 [a_1] := K0.wr W18 (Or.inl (List.mem_of_getElem? (i := 0) rfl))
        have N18 := Fr.snoc X18 N0 (by omega : n0 ≤ a_1)
        have Fw18 : Fld Z h18 a_1 "com/example/orderly_storefront/orderlystorefront/catalog/CsvReader$Lines" "previous" "I" (.int p_2) := Fld.same W18 pr_F_a_1_previous
        refine own_go (fun _ k => st18 _ k) ?_
        show own_Go _ _ _ _ T18 (mkF m 36 #[.val (.ref a_1), .val (.int p_2)] [])
        obtain ⟨fs, hr, hrun, hended, hW, hsame⟩ := X18.leave (v := none) (fun _ => rfl)
        refine ⟨_, _, X18.returnOut hx Bd.returns (hb hby own_d5_36) hr, hrun, hended, _, _, rfl, ?_, ⟨_, rfl⟩, hW, hsame.mono (by decide) (by decide)⟩
        show own_Q5 Z a_1 p_2 w_current_a_1 w_previous_a_1 h0 n0 _ T18.heap _
        rw [e18]
        have f21 : Fld Z h18 a_1 "com/example/orderly_storefront/orderlystorefront/catalog/CsvReader$Lines" "current" "I" (.int w_current_a_1) := (pr_F_a_1_current.other W18 (Or.inr (slot_ne (Or.inl (hw _ (List.mem_of_getElem? (i := 14) rfl))) (Or.inl (hw _ (List.mem_of_getElem? (i := 16) rfl))) (by decide) (t := .int) (t' := .int) (by decide) (by decide))))
        have f22 : Exa Z h18 a_1 "com/example/orderly_storefront/orderlystorefront/catalog/CsvReader$Lines" := (pr_E_a_1.wr W18)
        exact ⟨rfl, N18, K18, (by have hh : w_current_a_1 = (own_rm5_current p_2 w_current_a_1 w_previous_a_1) := (by first | rfl | simp only [own_rm5_current, if_neg hc4, if_pos hc15, if_pos hc17]); rw [← hh]; exact f21), f22, Fw18⟩
      · refine own_go (fun _ k => XS.icmpNo X16.here hx rfl (hb hby own_d5_18) rfl (Jvm.Free.XT.ii_eq_f hc17) k) ?_
        show own_Go _ _ _ _ T16 (mkF m 21 #[.val (.ref a_1), .val (.int p_2)] [])
        refine own_go (fun _ k => XS.aloadN X16.here hx rfl (hb hby own_d5_21) rfl rfl k) ?_
        show own_Go _ _ _ _ T16 (mkF m 22 #[.val (.ref a_1), .val (.int p_2)] [(.ref a_1)])
        refine own_go (fun _ k => XS.dup X16.here hx rfl (hb hby own_d5_22) rfl rfl k) ?_
        show own_Go _ _ _ _ T16 (mkF m 23 #[.val (.ref a_1), .val (.int p_2)] [(.ref a_1), (.ref a_1)])
        obtain ⟨T23, X23, e23, st23⟩ := getF X16 hx hZ hown (host := "") (Or.inl (hw _ (List.mem_of_getElem? (i := 13) rfl))) Via.refl e16 pr_F_a_1_current (g := (mkF m 23 #[.val (.ref a_1), .val (.int p_2)] [(.ref a_1), (.ref a_1)])) rfl rfl (hb hby own_d5_23)
        refine own_go (fun _ k => st23 _ k) ?_
        show own_Go _ _ _ _ T23 (mkF m 26 #[.val (.ref a_1), .val (.int p_2)] [(.int w_current_a_1), (.ref a_1)])
        refine own_go (fun _ k => XS.iconst X23.here hx rfl (hb hby own_d5_26) k) ?_
        show own_Go _ _ _ _ T23 (mkF m 27 #[.val (.ref a_1), .val (.int p_2)] [(.int (1 : Int32)), (.int w_current_a_1), (.ref a_1)])
        refine own_go (fun _ k => XS.iadd X23.here hx rfl (hb hby own_d5_27) rfl k) ?_
        show own_Go _ _ _ _ T23 (mkF m 28 #[.val (.ref a_1), .val (.int p_2)] [(.int (w_current_a_1 + (1 : Int32))), (.ref a_1)])
        obtain ⟨T24, h24, X24, e24, W24, st24⟩ := putF X23 hx hZ hown (host := "") (Or.inl (hw _ (List.mem_of_getElem? (i := 13) rfl))) Via.refl e23 pr_F_a_1_current pr_E_a_1 (Or.inl (hw _ (List.mem_of_getElem? (i := 14) rfl))) (hw _ (List.mem_of_getElem? (i := 5) rfl)) (ty := .int) (by decide) rfl rfl (g := (mkF m 28 #[.val (.ref a_1), .val (.int p_2)] [(.int (w_current_a_1 + (1 : Int32))), (.ref a_1)])) rfl rfl (hb hby own_d5_28)
        have z25 := W24.size
        have K24 : Keep h0 h24 [a_1] := K0.wr W24 (Or.inl (List.mem_of_getElem? (i := 0) rfl))
        have N24 := Fr.snoc X24 N0 (by omega : n0 ≤ a_1)
        have Fw24 : Fld Z h24 a_1 "com/example/orderly_storefront/orderlystorefront/catalog/CsvReader$Lines" "current" "I" (.int (w_current_a_1 + (1 : Int32))) := Fld.same W24 pr_F_a_1_current
        refine own_go (fun _ k => st24 _ k) ?_
        show own_Go _ _ _ _ T24 (mkF m 31 #[.val (.ref a_1), .val (.int p_2)] [])
        refine own_go (fun _ k => XS.aloadN X24.here hx rfl (hb hby own_d5_31) rfl rfl k) ?_
        show own_Go _ _ _ _ T24 (mkF m 32 #[.val (.ref a_1), .val (.int p_2)] [(.ref a_1)])
        refine own_go (fun _ k => XS.iloadN X24.here hx rfl (hb hby own_d5_32) rfl k) ?_
        show own_Go _ _ _ _ T24 (mkF m 33 #[.val (.ref a_1), .val (.int p_2)] [(.int p_2), (.ref a_1)])
        have f26 : Exa Z h24 a_1 "com/example/orderly_storefront/orderlystorefront/catalog/CsvReader$Lines" := (pr_E_a_1.wr W24)
        have f27 : Fld Z h24 a_1 "com/example/orderly_storefront/orderlystorefront/catalog/CsvReader$Lines" "previous" "I" (.int w_previous_a_1) := (pr_F_a_1_previous.other W24 (Or.inr (slot_ne (Or.inl (hw _ (List.mem_of_getElem? (i := 16) rfl))) (Or.inl (hw _ (List.mem_of_getElem? (i := 14) rfl))) (by decide) (t := .int) (t' := .int) (by decide) (by decide))))
        obtain ⟨T28, h28, X28, e28, W28, st28⟩ := putF X24 hx hZ hown (host := "") (Or.inl (hw _ (List.mem_of_getElem? (i := 15) rfl))) Via.refl e24 f27 f26 (Or.inl (hw _ (List.mem_of_getElem? (i := 16) rfl))) (hw _ (List.mem_of_getElem? (i := 5) rfl)) (ty := .int) (by decide) rfl rfl (g := (mkF m 33 #[.val (.ref a_1), .val (.int p_2)] [(.int p_2), (.ref a_1)])) rfl rfl (hb hby own_d5_33)
        have z29 := W28.size
        have K28 : Keep h0 h28 [a_1] := K24.wr W28 (Or.inl (List.mem_of_getElem? (i := 0) rfl))
        have N28 := Fr.snoc X28 N24 (by omega : n0 ≤ a_1)
        have Fw28 : Fld Z h28 a_1 "com/example/orderly_storefront/orderlystorefront/catalog/CsvReader$Lines" "previous" "I" (.int p_2) := Fld.same W28 f27
        refine own_go (fun _ k => st28 _ k) ?_
        show own_Go _ _ _ _ T28 (mkF m 36 #[.val (.ref a_1), .val (.int p_2)] [])
        obtain ⟨fs, hr, hrun, hended, hW, hsame⟩ := X28.leave (v := none) (fun _ => rfl)
        refine ⟨_, _, X28.returnOut hx Bd.returns (hb hby own_d5_36) hr, hrun, hended, _, _, rfl, ?_, ⟨_, rfl⟩, hW, hsame.mono (by decide) (by decide)⟩
        show own_Q5 Z a_1 p_2 w_current_a_1 w_previous_a_1 h0 n0 _ T28.heap _
        rw [e28]
        have f31 : Fld Z h28 a_1 "com/example/orderly_storefront/orderlystorefront/catalog/CsvReader$Lines" "current" "I" (.int (w_current_a_1 + (1 : Int32))) := (Fw24.other W28 (Or.inr (slot_ne (Or.inl (hw _ (List.mem_of_getElem? (i := 14) rfl))) (Or.inl (hw _ (List.mem_of_getElem? (i := 16) rfl))) (by decide) (t := .int) (t' := .int) (by decide) (by decide))))
        have f32 : Exa Z h28 a_1 "com/example/orderly_storefront/orderlystorefront/catalog/CsvReader$Lines" := (f26.wr W28)
        exact ⟨rfl, N28, K28, (by have hh : (w_current_a_1 + (1 : Int32)) = (own_rm5_current p_2 w_current_a_1 w_previous_a_1) := (by first | rfl | simp only [own_rm5_current, if_neg hc4, if_pos hc15, if_neg hc17]); rw [← hh]; exact f31), f32, Fw28⟩
    · refine own_go (fun _ k => XS.icmpYes X0.here hx rfl (pc0 := 9) (pc' := 31) rfl (hb hby own_d5_9) rfl (Jvm.Free.XT.ii_ne_t hc15) (by decide) (by decide) k) ?_
      show own_Go _ _ _ _ s₁ (mkF m 31 #[.val (.ref a_1), .val (.int p_2)] [])
      refine own_go (fun _ k => XS.aloadN X0.here hx rfl (hb hby own_d5_31) rfl rfl k) ?_
      show own_Go _ _ _ _ s₁ (mkF m 32 #[.val (.ref a_1), .val (.int p_2)] [(.ref a_1)])
      refine own_go (fun _ k => XS.iloadN X0.here hx rfl (hb hby own_d5_32) rfl k) ?_
      show own_Go _ _ _ _ s₁ (mkF m 33 #[.val (.ref a_1), .val (.int p_2)] [(.int p_2), (.ref a_1)])
      obtain ⟨T33, h33, X33, e33, W33, st33⟩ := putF X0 hx hZ hown (host := "") (Or.inl (hw _ (List.mem_of_getElem? (i := 15) rfl))) Via.refl e0 pr_F_a_1_previous pr_E_a_1 (Or.inl (hw _ (List.mem_of_getElem? (i := 16) rfl))) (hw _ (List.mem_of_getElem? (i := 5) rfl)) (ty := .int) (by decide) rfl rfl (g := (mkF m 33 #[.val (.ref a_1), .val (.int p_2)] [(.int p_2), (.ref a_1)])) rfl rfl (hb hby own_d5_33)
      have z34 := W33.size
      have K33 : Keep h0 h33 [a_1] := K0.wr W33 (Or.inl (List.mem_of_getElem? (i := 0) rfl))
      have N33 := Fr.snoc X33 N0 (by omega : n0 ≤ a_1)
      have Fw33 : Fld Z h33 a_1 "com/example/orderly_storefront/orderlystorefront/catalog/CsvReader$Lines" "previous" "I" (.int p_2) := Fld.same W33 pr_F_a_1_previous
      refine own_go (fun _ k => st33 _ k) ?_
      show own_Go _ _ _ _ T33 (mkF m 36 #[.val (.ref a_1), .val (.int p_2)] [])
      obtain ⟨fs, hr, hrun, hended, hW, hsame⟩ := X33.leave (v := none) (fun _ => rfl)
      refine ⟨_, _, X33.returnOut hx Bd.returns (hb hby own_d5_36) hr, hrun, hended, _, _, rfl, ?_, ⟨_, rfl⟩, hW, hsame.mono (by decide) (by decide)⟩
      show own_Q5 Z a_1 p_2 w_current_a_1 w_previous_a_1 h0 n0 _ T33.heap _
      rw [e33]
      have f36 : Fld Z h33 a_1 "com/example/orderly_storefront/orderlystorefront/catalog/CsvReader$Lines" "current" "I" (.int w_current_a_1) := (pr_F_a_1_current.other W33 (Or.inr (slot_ne (Or.inl (hw _ (List.mem_of_getElem? (i := 14) rfl))) (Or.inl (hw _ (List.mem_of_getElem? (i := 16) rfl))) (by decide) (t := .int) (t' := .int) (by decide) (by decide))))
      have f37 : Exa Z h33 a_1 "com/example/orderly_storefront/orderlystorefront/catalog/CsvReader$Lines" := (pr_E_a_1.wr W33)
      exact ⟨rfl, N33, K33, (by have hh : w_current_a_1 = (own_rm5_current p_2 w_current_a_1 w_previous_a_1) := (by first | rfl | simp only [own_rm5_current, if_neg hc4, if_neg hc15]); rw [← hh]; exact f36), f37, Fw33⟩
theorem own_d6_0 : decode method_3_code 0 = .ok (.iload_n 0, 1) := by decide +kernel
theorem own_d6_1 : decode method_3_code 1 = .ok (.bipush 13, 2) := by decide +kernel
theorem own_d6_3 : decode method_3_code 3 = .ok (.if_icmp .ne 7, 3) := by decide +kernel
theorem own_d6_6 : decode method_3_code 6 = .ok (.iconst 1, 1) := by decide +kernel
theorem own_d6_7 : decode method_3_code 7 = .ok (.goto 4, 3) := by decide +kernel
theorem own_d6_10 : decode method_3_code 10 = .ok (.iconst 0, 1) := by decide +kernel
theorem own_d6_11 : decode method_3_code 11 = .ok (.ireturn, 1) := by decide +kernel
theorem own_ef_own_rm6 (m : MethodId) (x0 : Int32) : entryFrame m #[(.int x0)] 1 = mkF m 0 #[.val (.int x0)] [] := by first | (simp [entryFrame, mkF, argsToLocals, Value.category]; done) | rfl
def own_rm6_ret (p_1 : Int32) : Int32 := if p_1 = (13 : Int32) then (1 : Int32) else (0 : Int32)
def own_Q6 (Z : State) (p_1 : Int32) (h0 : Heap) (n0 : Nat) (v : Option Value) (h : Heap) (L : List Loc) : Prop := ∃ (r_ : Int32), v = some (.int r_) ∧ Fr n0 L ∧ r_ = (own_rm6_ret p_1) ∧ h = h0
set_option maxRecDepth 65536 in
set_option maxHeartbeats 40000000 in
theorem own_rm6 (l : Launch) (Z : State) (a0 : Array Value) (hw : ∀ d ∈ tables_1, d.before a0 Z = true) (ws : List Jvm.Cond) (p_1 : Int32) (h0 : Heap) (n0 : Nat) (Z0 : n0 ≤ h0.size) :
    MetFree l (⟨"com/example/orderly_storefront/orderlystorefront/catalog/LinesCountPinLaw", "cr", "(I)I"⟩ : MethodName) (head1 (Jvm.Cond.code (⟨"com/example/orderly_storefront/orderlystorefront/catalog/LinesCountPinLaw", "cr", "(I)I"⟩ : MethodName) method_3_code 1 (some .int) :: ws) ({ frames := 0, cells := 0, slots := 0, locals := 0 } : Room)) (fun a U => a = #[(.int p_1)] ∧ Z.Warmed39 U.vm ∧ U.heap = h0) (fun _ _ _ _ _ => True) (fun _ U o U' => ∃ v L, o = .returned v ∧ own_Q6 Z p_1 h0 n0 v U'.heap L ∧ FrameEnd U o U' L ({ frames := 0, cells := 0, slots := 0, locals := 0 } : Room).cells ({ frames := 0, cells := 0, slots := 0, locals := 0 } : Room).slots) := by
  refine MetFree.of_bodySF (plainFor_of_name own_pn0) hisR ?_
  intro p e s m args below meth c s₁ Bd hml0 hP hK
  obtain ⟨rfl, hZ, hh⟩ := hP
  have hx := Bd.exec
  have hby := Bd.bytes
  have hml : c.maxLocals = 1 := hml0
  have hown : s.vm.findClass "com/example/orderly_storefront/orderlystorefront/catalog/LinesCountPinLaw" = some m.cls := findClass_of_methodNamed Bd.named
  have hnm := (name_of_methodNamed Bd.named Bd.method).1
  have X0 : Stand p l e ({ frames := 0, cells := 0, slots := 0, locals := 0 } : Room) s m #[(.int p_1)] below meth c s₁ [] 0 0 := Stand.of_body Bd
  have e0 : s₁.heap = h0 := by rw [← hh, Bd.state]; rfl
  have N0 := Fr.nil n0
  have z0 : n0 ≤ h0.size := Z0
  show own_Go p.tables e below (fun t o => t.status = .running ∧ Ended t below o ∧ ∃ v L, o = .returned v ∧ own_Q6 Z p_1 h0 n0 v t.heap L ∧ FrameEnd s o t L ({ frames := 0, cells := 0, slots := 0, locals := 0 } : Room).cells ({ frames := 0, cells := 0, slots := 0, locals := 0 } : Room).slots) s₁ (entryFrame m #[(.int p_1)] 1)
  rw [own_ef_own_rm6 m p_1]
  show own_Go _ _ _ _ s₁ (mkF m 0 #[.val (.int p_1)] [])
  refine own_go (fun _ k => XS.iloadN X0.here hx rfl (hb hby own_d6_0) rfl k) ?_
  show own_Go _ _ _ _ s₁ (mkF m 1 #[.val (.int p_1)] [(.int p_1)])
  refine own_go (fun _ k => XS.bipush X0.here hx rfl (hb hby own_d6_1) k) ?_
  show own_Go _ _ _ _ s₁ (mkF m 3 #[.val (.int p_1)] [(.int (13 : Int32)), (.int p_1)])
  by_cases hc1 : p_1 = (13 : Int32)
  · refine own_go (fun _ k => XS.icmpNo X0.here hx rfl (hb hby own_d6_3) rfl (Jvm.Free.XT.ii_ne_f hc1) k) ?_
    show own_Go _ _ _ _ s₁ (mkF m 6 #[.val (.int p_1)] [])
    refine own_go (fun _ k => XS.iconst X0.here hx rfl (hb hby own_d6_6) k) ?_
    show own_Go _ _ _ _ s₁ (mkF m 7 #[.val (.int p_1)] [(.int (1 : Int32))])
    refine own_go (fun _ k => XS.goto X0.here hx rfl (pc0 := 7) (pc' := 11) rfl (hb hby own_d6_7) (by decide) (by decide) k) ?_
    show own_Go _ _ _ _ s₁ (mkF m 11 #[.val (.int p_1)] [(.int (1 : Int32))])
    obtain ⟨fs, hr, hrun, hended, hW, hsame⟩ := X0.leave (v := some (.int (1 : Int32))) (fun h => by rw [Bd.returns] at h; cases h)
    refine ⟨_, _, retOut X0 hx Bd.returns rfl (Or.inl ⟨rfl, Or.inl rfl, _, rfl⟩) (hb hby own_d6_11) hr, hrun, hended, _, _, rfl, ?_, ⟨_, rfl⟩, hW, hsame.mono (by decide) (by decide)⟩
    show own_Q6 Z p_1 h0 n0 _ s₁.heap _
    rw [e0]
    exact ⟨_, rfl, N0, (by first | rfl | simp only [own_rm6_ret, if_pos hc1]), rfl⟩
  · refine own_go (fun _ k => XS.icmpYes X0.here hx rfl (pc0 := 3) (pc' := 10) rfl (hb hby own_d6_3) rfl (Jvm.Free.XT.ii_ne_t hc1) (by decide) (by decide) k) ?_
    show own_Go _ _ _ _ s₁ (mkF m 10 #[.val (.int p_1)] [])
    refine own_go (fun _ k => XS.iconst X0.here hx rfl (hb hby own_d6_10) k) ?_
    show own_Go _ _ _ _ s₁ (mkF m 11 #[.val (.int p_1)] [(.int (0 : Int32))])
    obtain ⟨fs, hr, hrun, hended, hW, hsame⟩ := X0.leave (v := some (.int (0 : Int32))) (fun h => by rw [Bd.returns] at h; cases h)
    refine ⟨_, _, retOut X0 hx Bd.returns rfl (Or.inl ⟨rfl, Or.inl rfl, _, rfl⟩) (hb hby own_d6_11) hr, hrun, hended, _, _, rfl, ?_, ⟨_, rfl⟩, hW, hsame.mono (by decide) (by decide)⟩
    show own_Q6 Z p_1 h0 n0 _ s₁.heap _
    rw [e0]
    exact ⟨_, rfl, N0, (by first | rfl | simp only [own_rm6_ret, if_neg hc1]), rfl⟩
theorem own_d7_0 : decode method_4_code 0 = .ok (.iload_n 0, 1) := by decide +kernel
theorem own_d7_1 : decode method_4_code 1 = .ok (.bipush 10, 2) := by decide +kernel
theorem own_d7_3 : decode method_4_code 3 = .ok (.if_icmp .ne 7, 3) := by decide +kernel
theorem own_d7_6 : decode method_4_code 6 = .ok (.iconst 1, 1) := by decide +kernel
theorem own_d7_7 : decode method_4_code 7 = .ok (.goto 4, 3) := by decide +kernel
theorem own_d7_10 : decode method_4_code 10 = .ok (.iconst 0, 1) := by decide +kernel
theorem own_d7_11 : decode method_4_code 11 = .ok (.ireturn, 1) := by decide +kernel
theorem own_ef_own_rm7 (m : MethodId) (x0 : Int32) : entryFrame m #[(.int x0)] 1 = mkF m 0 #[.val (.int x0)] [] := by first | (simp [entryFrame, mkF, argsToLocals, Value.category]; done) | rfl
def own_rm7_ret (p_1 : Int32) : Int32 := if p_1 = (10 : Int32) then (1 : Int32) else (0 : Int32)
def own_Q7 (Z : State) (p_1 : Int32) (h0 : Heap) (n0 : Nat) (v : Option Value) (h : Heap) (L : List Loc) : Prop := ∃ (r_ : Int32), v = some (.int r_) ∧ Fr n0 L ∧ r_ = (own_rm7_ret p_1) ∧ h = h0
set_option maxRecDepth 65536 in
set_option maxHeartbeats 40000000 in
theorem own_rm7 (l : Launch) (Z : State) (a0 : Array Value) (hw : ∀ d ∈ tables_1, d.before a0 Z = true) (ws : List Jvm.Cond) (p_1 : Int32) (h0 : Heap) (n0 : Nat) (Z0 : n0 ≤ h0.size) :
    MetFree l (⟨"com/example/orderly_storefront/orderlystorefront/catalog/LinesCountPinLaw", "lf", "(I)I"⟩ : MethodName) (head1 (Jvm.Cond.code (⟨"com/example/orderly_storefront/orderlystorefront/catalog/LinesCountPinLaw", "lf", "(I)I"⟩ : MethodName) method_4_code 1 (some .int) :: ws) ({ frames := 0, cells := 0, slots := 0, locals := 0 } : Room)) (fun a U => a = #[(.int p_1)] ∧ Z.Warmed39 U.vm ∧ U.heap = h0) (fun _ _ _ _ _ => True) (fun _ U o U' => ∃ v L, o = .returned v ∧ own_Q7 Z p_1 h0 n0 v U'.heap L ∧ FrameEnd U o U' L ({ frames := 0, cells := 0, slots := 0, locals := 0 } : Room).cells ({ frames := 0, cells := 0, slots := 0, locals := 0 } : Room).slots) := by
  refine MetFree.of_bodySF (plainFor_of_name own_pn0) hisR ?_
  intro p e s m args below meth c s₁ Bd hml0 hP hK
  obtain ⟨rfl, hZ, hh⟩ := hP
  have hx := Bd.exec
  have hby := Bd.bytes
  have hml : c.maxLocals = 1 := hml0
  have hown : s.vm.findClass "com/example/orderly_storefront/orderlystorefront/catalog/LinesCountPinLaw" = some m.cls := findClass_of_methodNamed Bd.named
  have hnm := (name_of_methodNamed Bd.named Bd.method).1
  have X0 : Stand p l e ({ frames := 0, cells := 0, slots := 0, locals := 0 } : Room) s m #[(.int p_1)] below meth c s₁ [] 0 0 := Stand.of_body Bd
  have e0 : s₁.heap = h0 := by rw [← hh, Bd.state]; rfl
  have N0 := Fr.nil n0
  have z0 : n0 ≤ h0.size := Z0
  show own_Go p.tables e below (fun t o => t.status = .running ∧ Ended t below o ∧ ∃ v L, o = .returned v ∧ own_Q7 Z p_1 h0 n0 v t.heap L ∧ FrameEnd s o t L ({ frames := 0, cells := 0, slots := 0, locals := 0 } : Room).cells ({ frames := 0, cells := 0, slots := 0, locals := 0 } : Room).slots) s₁ (entryFrame m #[(.int p_1)] 1)
  rw [own_ef_own_rm7 m p_1]
  show own_Go _ _ _ _ s₁ (mkF m 0 #[.val (.int p_1)] [])
  refine own_go (fun _ k => XS.iloadN X0.here hx rfl (hb hby own_d7_0) rfl k) ?_
  show own_Go _ _ _ _ s₁ (mkF m 1 #[.val (.int p_1)] [(.int p_1)])
  refine own_go (fun _ k => XS.bipush X0.here hx rfl (hb hby own_d7_1) k) ?_
  show own_Go _ _ _ _ s₁ (mkF m 3 #[.val (.int p_1)] [(.int (10 : Int32)), (.int p_1)])
  by_cases hc1 : p_1 = (10 : Int32)
  · refine own_go (fun _ k => XS.icmpNo X0.here hx rfl (hb hby own_d7_3) rfl (Jvm.Free.XT.ii_ne_f hc1) k) ?_
    show own_Go _ _ _ _ s₁ (mkF m 6 #[.val (.int p_1)] [])
    refine own_go (fun _ k => XS.iconst X0.here hx rfl (hb hby own_d7_6) k) ?_
    show own_Go _ _ _ _ s₁ (mkF m 7 #[.val (.int p_1)] [(.int (1 : Int32))])
    refine own_go (fun _ k => XS.goto X0.here hx rfl (pc0 := 7) (pc' := 11) rfl (hb hby own_d7_7) (by decide) (by decide) k) ?_
    show own_Go _ _ _ _ s₁ (mkF m 11 #[.val (.int p_1)] [(.int (1 : Int32))])
    obtain ⟨fs, hr, hrun, hended, hW, hsame⟩ := X0.leave (v := some (.int (1 : Int32))) (fun h => by rw [Bd.returns] at h; cases h)
    refine ⟨_, _, retOut X0 hx Bd.returns rfl (Or.inl ⟨rfl, Or.inl rfl, _, rfl⟩) (hb hby own_d7_11) hr, hrun, hended, _, _, rfl, ?_, ⟨_, rfl⟩, hW, hsame.mono (by decide) (by decide)⟩
    show own_Q7 Z p_1 h0 n0 _ s₁.heap _
    rw [e0]
    exact ⟨_, rfl, N0, (by first | rfl | simp only [own_rm7_ret, if_pos hc1]), rfl⟩
  · refine own_go (fun _ k => XS.icmpYes X0.here hx rfl (pc0 := 3) (pc' := 10) rfl (hb hby own_d7_3) rfl (Jvm.Free.XT.ii_ne_t hc1) (by decide) (by decide) k) ?_
    show own_Go _ _ _ _ s₁ (mkF m 10 #[.val (.int p_1)] [])
    refine own_go (fun _ k => XS.iconst X0.here hx rfl (hb hby own_d7_10) k) ?_
    show own_Go _ _ _ _ s₁ (mkF m 11 #[.val (.int p_1)] [(.int (0 : Int32))])
    obtain ⟨fs, hr, hrun, hended, hW, hsame⟩ := X0.leave (v := some (.int (0 : Int32))) (fun h => by rw [Bd.returns] at h; cases h)
    refine ⟨_, _, retOut X0 hx Bd.returns rfl (Or.inl ⟨rfl, Or.inl rfl, _, rfl⟩) (hb hby own_d7_11) hr, hrun, hended, _, _, rfl, ?_, ⟨_, rfl⟩, hW, hsame.mono (by decide) (by decide)⟩
    show own_Q7 Z p_1 h0 n0 _ s₁.heap _
    rw [e0]
    exact ⟨_, rfl, N0, (by first | rfl | simp only [own_rm7_ret, if_neg hc1]), rfl⟩
theorem own_d8_0 : decode method_5_code 0 = .ok (.iload_n 0, 1) := by decide +kernel
theorem own_d8_1 : decode method_5_code 1 = .ok (.bipush 13, 2) := by decide +kernel
theorem own_d8_3 : decode method_5_code 3 = .ok (.if_icmp .ne 13, 3) := by decide +kernel
theorem own_d8_6 : decode method_5_code 6 = .ok (.iload_n 1, 1) := by decide +kernel
theorem own_d8_7 : decode method_5_code 7 = .ok (.bipush 10, 2) := by decide +kernel
theorem own_d8_9 : decode method_5_code 9 = .ok (.if_icmp .ne 7, 3) := by decide +kernel
theorem own_d8_12 : decode method_5_code 12 = .ok (.iconst 1, 1) := by decide +kernel
theorem own_d8_13 : decode method_5_code 13 = .ok (.goto 4, 3) := by decide +kernel
theorem own_d8_16 : decode method_5_code 16 = .ok (.iconst 0, 1) := by decide +kernel
theorem own_d8_17 : decode method_5_code 17 = .ok (.ireturn, 1) := by decide +kernel
theorem own_ef_own_rm8 (m : MethodId) (x0 : Int32) (x1 : Int32) : entryFrame m #[(.int x0), (.int x1)] 2 = mkF m 0 #[.val (.int x0), .val (.int x1)] [] := by first | (simp [entryFrame, mkF, argsToLocals, Value.category]; done) | rfl
def own_rm8_ret (p_1 : Int32) (p_2 : Int32) : Int32 := if p_1 = (13 : Int32) then (if p_2 = (10 : Int32) then (1 : Int32) else (0 : Int32)) else (0 : Int32)
def own_Q8 (Z : State) (p_1 : Int32) (p_2 : Int32) (h0 : Heap) (n0 : Nat) (v : Option Value) (h : Heap) (L : List Loc) : Prop := ∃ (r_ : Int32), v = some (.int r_) ∧ Fr n0 L ∧ r_ = (own_rm8_ret p_1 p_2) ∧ h = h0
set_option maxRecDepth 65536 in
set_option maxHeartbeats 40000000 in
theorem own_rm8 (l : Launch) (Z : State) (a0 : Array Value) (hw : ∀ d ∈ tables_1, d.before a0 Z = true) (ws : List Jvm.Cond) (p_1 : Int32) (p_2 : Int32) (h0 : Heap) (n0 : Nat) (Z0 : n0 ≤ h0.size) :
    MetFree l (⟨"com/example/orderly_storefront/orderlystorefront/catalog/LinesCountPinLaw", "pair", "(II)I"⟩ : MethodName) (head1 (Jvm.Cond.code (⟨"com/example/orderly_storefront/orderlystorefront/catalog/LinesCountPinLaw", "pair", "(II)I"⟩ : MethodName) method_5_code 2 (some .int) :: ws) ({ frames := 0, cells := 0, slots := 0, locals := 0 } : Room)) (fun a U => a = #[(.int p_1), (.int p_2)] ∧ Z.Warmed39 U.vm ∧ U.heap = h0) (fun _ _ _ _ _ => True) (fun _ U o U' => ∃ v L, o = .returned v ∧ own_Q8 Z p_1 p_2 h0 n0 v U'.heap L ∧ FrameEnd U o U' L ({ frames := 0, cells := 0, slots := 0, locals := 0 } : Room).cells ({ frames := 0, cells := 0, slots := 0, locals := 0 } : Room).slots) := by
  refine MetFree.of_bodySF (plainFor_of_name own_pn0) hisR ?_
  intro p e s m args below meth c s₁ Bd hml0 hP hK
  obtain ⟨rfl, hZ, hh⟩ := hP
  have hx := Bd.exec
  have hby := Bd.bytes
  have hml : c.maxLocals = 2 := hml0
  have hown : s.vm.findClass "com/example/orderly_storefront/orderlystorefront/catalog/LinesCountPinLaw" = some m.cls := findClass_of_methodNamed Bd.named
  have hnm := (name_of_methodNamed Bd.named Bd.method).1
  have X0 : Stand p l e ({ frames := 0, cells := 0, slots := 0, locals := 0 } : Room) s m #[(.int p_1), (.int p_2)] below meth c s₁ [] 0 0 := Stand.of_body Bd
  have e0 : s₁.heap = h0 := by rw [← hh, Bd.state]; rfl
  have N0 := Fr.nil n0
  have z0 : n0 ≤ h0.size := Z0
  show own_Go p.tables e below (fun t o => t.status = .running ∧ Ended t below o ∧ ∃ v L, o = .returned v ∧ own_Q8 Z p_1 p_2 h0 n0 v t.heap L ∧ FrameEnd s o t L ({ frames := 0, cells := 0, slots := 0, locals := 0 } : Room).cells ({ frames := 0, cells := 0, slots := 0, locals := 0 } : Room).slots) s₁ (entryFrame m #[(.int p_1), (.int p_2)] 2)
  rw [own_ef_own_rm8 m p_1 p_2]
  show own_Go _ _ _ _ s₁ (mkF m 0 #[.val (.int p_1), .val (.int p_2)] [])
  refine own_go (fun _ k => XS.iloadN X0.here hx rfl (hb hby own_d8_0) rfl k) ?_
  show own_Go _ _ _ _ s₁ (mkF m 1 #[.val (.int p_1), .val (.int p_2)] [(.int p_1)])
  refine own_go (fun _ k => XS.bipush X0.here hx rfl (hb hby own_d8_1) k) ?_
  show own_Go _ _ _ _ s₁ (mkF m 3 #[.val (.int p_1), .val (.int p_2)] [(.int (13 : Int32)), (.int p_1)])
  by_cases hc1 : p_1 = (13 : Int32)
  · refine own_go (fun _ k => XS.icmpNo X0.here hx rfl (hb hby own_d8_3) rfl (Jvm.Free.XT.ii_ne_f hc1) k) ?_
    show own_Go _ _ _ _ s₁ (mkF m 6 #[.val (.int p_1), .val (.int p_2)] [])
    refine own_go (fun _ k => XS.iloadN X0.here hx rfl (hb hby own_d8_6) rfl k) ?_
    show own_Go _ _ _ _ s₁ (mkF m 7 #[.val (.int p_1), .val (.int p_2)] [(.int p_2)])
    refine own_go (fun _ k => XS.bipush X0.here hx rfl (hb hby own_d8_7) k) ?_
    show own_Go _ _ _ _ s₁ (mkF m 9 #[.val (.int p_1), .val (.int p_2)] [(.int (10 : Int32)), (.int p_2)])
    by_cases hc2 : p_2 = (10 : Int32)
    · refine own_go (fun _ k => XS.icmpNo X0.here hx rfl (hb hby own_d8_9) rfl (Jvm.Free.XT.ii_ne_f hc2) k) ?_
      show own_Go _ _ _ _ s₁ (mkF m 12 #[.val (.int p_1), .val (.int p_2)] [])
      refine own_go (fun _ k => XS.iconst X0.here hx rfl (hb hby own_d8_12) k) ?_
      show own_Go _ _ _ _ s₁ (mkF m 13 #[.val (.int p_1), .val (.int p_2)] [(.int (1 : Int32))])
      refine own_go (fun _ k => XS.goto X0.here hx rfl (pc0 := 13) (pc' := 17) rfl (hb hby own_d8_13) (by decide) (by decide) k) ?_
      show own_Go _ _ _ _ s₁ (mkF m 17 #[.val (.int p_1), .val (.int p_2)] [(.int (1 : Int32))])
      obtain ⟨fs, hr, hrun, hended, hW, hsame⟩ := X0.leave (v := some (.int (1 : Int32))) (fun h => by rw [Bd.returns] at h; cases h)
      refine ⟨_, _, retOut X0 hx Bd.returns rfl (Or.inl ⟨rfl, Or.inl rfl, _, rfl⟩) (hb hby own_d8_17) hr, hrun, hended, _, _, rfl, ?_, ⟨_, rfl⟩, hW, hsame.mono (by decide) (by decide)⟩
      show own_Q8 Z p_1 p_2 h0 n0 _ s₁.heap _
      rw [e0]
      exact ⟨_, rfl, N0, (by first | rfl | simp only [own_rm8_ret, if_pos hc1, if_pos hc2]), rfl⟩
    · refine own_go (fun _ k => XS.icmpYes X0.here hx rfl (pc0 := 9) (pc' := 16) rfl (hb hby own_d8_9) rfl (Jvm.Free.XT.ii_ne_t hc2) (by decide) (by decide) k) ?_
      show own_Go _ _ _ _ s₁ (mkF m 16 #[.val (.int p_1), .val (.int p_2)] [])
      refine own_go (fun _ k => XS.iconst X0.here hx rfl (hb hby own_d8_16) k) ?_
      show own_Go _ _ _ _ s₁ (mkF m 17 #[.val (.int p_1), .val (.int p_2)] [(.int (0 : Int32))])
      obtain ⟨fs, hr, hrun, hended, hW, hsame⟩ := X0.leave (v := some (.int (0 : Int32))) (fun h => by rw [Bd.returns] at h; cases h)
      refine ⟨_, _, retOut X0 hx Bd.returns rfl (Or.inl ⟨rfl, Or.inl rfl, _, rfl⟩) (hb hby own_d8_17) hr, hrun, hended, _, _, rfl, ?_, ⟨_, rfl⟩, hW, hsame.mono (by decide) (by decide)⟩
      show own_Q8 Z p_1 p_2 h0 n0 _ s₁.heap _
      rw [e0]
      exact ⟨_, rfl, N0, (by first | rfl | simp only [own_rm8_ret, if_pos hc1, if_neg hc2]), rfl⟩
  · refine own_go (fun _ k => XS.icmpYes X0.here hx rfl (pc0 := 3) (pc' := 16) rfl (hb hby own_d8_3) rfl (Jvm.Free.XT.ii_ne_t hc1) (by decide) (by decide) k) ?_
    show own_Go _ _ _ _ s₁ (mkF m 16 #[.val (.int p_1), .val (.int p_2)] [])
    refine own_go (fun _ k => XS.iconst X0.here hx rfl (hb hby own_d8_16) k) ?_
    show own_Go _ _ _ _ s₁ (mkF m 17 #[.val (.int p_1), .val (.int p_2)] [(.int (0 : Int32))])
    obtain ⟨fs, hr, hrun, hended, hW, hsame⟩ := X0.leave (v := some (.int (0 : Int32))) (fun h => by rw [Bd.returns] at h; cases h)
    refine ⟨_, _, retOut X0 hx Bd.returns rfl (Or.inl ⟨rfl, Or.inl rfl, _, rfl⟩) (hb hby own_d8_17) hr, hrun, hended, _, _, rfl, ?_, ⟨_, rfl⟩, hW, hsame.mono (by decide) (by decide)⟩
    show own_Q8 Z p_1 p_2 h0 n0 _ s₁.heap _
    rw [e0]
    exact ⟨_, rfl, N0, (by first | rfl | simp only [own_rm8_ret, if_neg hc1]), rfl⟩
theorem own_ef_own_rm0 (m : MethodId) (x0 : Int32) (x1 : Int32) (x2 : Int32) (x3 : Int32) : entryFrame m #[(.int x0), (.int x1), (.int x2), (.int x3)] maxLocals = mkF m 0 #[.val (.int x0), .val (.int x1), .val (.int x2), .val (.int x3), .unset, .unset, .unset, .unset, .unset, .unset, .unset, .unset, .unset, .unset] [] := by first | (simp [entryFrame, mkF, argsToLocals, Value.category, maxLocals]; done) | rfl
set_option maxRecDepth 65536 in
set_option maxHeartbeats 4000000 in
theorem own_t0_0 (r2 : Int32) (v26 : Int32) (r31 : Int32) (r33 : Int32) (v34 : Int32) (hdv26 : v26 = (own_rm5_current r2 (1 : Int32) (-1 : Int32))) (hr_r31 : r31 = (own_rm6_ret r2)) (hr_r33 : r33 = (own_rm7_ret r2)) (hdv34 : (((1 : Int32) + r31) + r33) = v34) : v26 = v34 := by
  grind [own_rm5_current, own_rm6_ret, own_rm7_ret, own_rm8_ret]
set_option maxRecDepth 65536 in
set_option maxHeartbeats 4000000 in
theorem own_t0_1 (r2 : Int32) (r4 : Int32) (v26 : Int32) (r31 : Int32) (r33 : Int32) (v34 : Int32) (v43 : Int32) (r48 : Int32) (r50 : Int32) (r52 : Int32) (v53 : Int32) (hdv26 : v26 = (own_rm5_current r2 (1 : Int32) (-1 : Int32))) (hr_r31 : r31 = (own_rm6_ret r2)) (hr_r33 : r33 = (own_rm7_ret r2)) (hdv34 : (((1 : Int32) + r31) + r33) = v34) (hc37 : v26 = v34) (hdv43 : v43 = (own_rm5_current r4 v26 r2)) (hr_r48 : r48 = (own_rm6_ret r4)) (hr_r50 : r50 = (own_rm7_ret r4)) (hr_r52 : r52 = (own_rm8_ret r2 r4)) (hdv53 : (((v34 + r48) + r50) - r52) = v53) : v43 = v53 := by
  grind [own_rm5_current, own_rm6_ret, own_rm7_ret, own_rm8_ret]
set_option maxRecDepth 65536 in
set_option maxHeartbeats 4000000 in
theorem own_t0_2 (r2 : Int32) (r4 : Int32) (r6 : Int32) (v26 : Int32) (r31 : Int32) (r33 : Int32) (v34 : Int32) (v43 : Int32) (r48 : Int32) (r50 : Int32) (r52 : Int32) (v53 : Int32) (v62 : Int32) (r67 : Int32) (r69 : Int32) (r71 : Int32) (v72 : Int32) (hdv26 : v26 = (own_rm5_current r2 (1 : Int32) (-1 : Int32))) (hr_r31 : r31 = (own_rm6_ret r2)) (hr_r33 : r33 = (own_rm7_ret r2)) (hdv34 : (((1 : Int32) + r31) + r33) = v34) (hc37 : v26 = v34) (hdv43 : v43 = (own_rm5_current r4 v26 r2)) (hr_r48 : r48 = (own_rm6_ret r4)) (hr_r50 : r50 = (own_rm7_ret r4)) (hr_r52 : r52 = (own_rm8_ret r2 r4)) (hdv53 : (((v34 + r48) + r50) - r52) = v53) (hc56 : v43 = v53) (hdv62 : v62 = (own_rm5_current r6 v43 r4)) (hr_r67 : r67 = (own_rm6_ret r6)) (hr_r69 : r69 = (own_rm7_ret r6)) (hr_r71 : r71 = (own_rm8_ret r4 r6)) (hdv72 : (((v53 + r67) + r69) - r71) = v72) : v62 = v72 := by
  grind [own_rm5_current, own_rm6_ret, own_rm7_ret, own_rm8_ret]
set_option maxRecDepth 65536 in
set_option maxHeartbeats 4000000 in
theorem own_t0_3 (r2 : Int32) (r4 : Int32) (r6 : Int32) (r8 : Int32) (v26 : Int32) (r31 : Int32) (r33 : Int32) (v34 : Int32) (v43 : Int32) (r48 : Int32) (r50 : Int32) (r52 : Int32) (v53 : Int32) (v62 : Int32) (r67 : Int32) (r69 : Int32) (r71 : Int32) (v72 : Int32) (v81 : Int32) (r86 : Int32) (r88 : Int32) (r90 : Int32) (v91 : Int32) (hdv26 : v26 = (own_rm5_current r2 (1 : Int32) (-1 : Int32))) (hr_r31 : r31 = (own_rm6_ret r2)) (hr_r33 : r33 = (own_rm7_ret r2)) (hdv34 : (((1 : Int32) + r31) + r33) = v34) (hc37 : v26 = v34) (hdv43 : v43 = (own_rm5_current r4 v26 r2)) (hr_r48 : r48 = (own_rm6_ret r4)) (hr_r50 : r50 = (own_rm7_ret r4)) (hr_r52 : r52 = (own_rm8_ret r2 r4)) (hdv53 : (((v34 + r48) + r50) - r52) = v53) (hc56 : v43 = v53) (hdv62 : v62 = (own_rm5_current r6 v43 r4)) (hr_r67 : r67 = (own_rm6_ret r6)) (hr_r69 : r69 = (own_rm7_ret r6)) (hr_r71 : r71 = (own_rm8_ret r4 r6)) (hdv72 : (((v53 + r67) + r69) - r71) = v72) (hc75 : v62 = v72) (hdv81 : v81 = (own_rm5_current r8 v62 r6)) (hr_r86 : r86 = (own_rm6_ret r8)) (hr_r88 : r88 = (own_rm7_ret r8)) (hr_r90 : r90 = (own_rm8_ret r6 r8)) (hdv91 : (((v72 + r86) + r88) - r90) = v91) : v81 = v91 := by
  grind [own_rm5_current, own_rm6_ret, own_rm7_ret, own_rm8_ret]
def own_Q0 (Z : State) (p_1 : Int32) (p_2 : Int32) (p_3 : Int32) (p_4 : Int32) (h0 : Heap) (n0 : Nat) (v : Option Value) (h : Heap) (L : List Loc) : Prop := v = some (.int (1 : Int32)) ∧ Fr n0 L
set_option maxRecDepth 65536 in
set_option maxHeartbeats 40000000 in
theorem own_rm0 (l : Launch) (Z : State) (a0 : Array Value) (hw : ∀ d ∈ tables_1, d.before a0 Z = true) (ws : List Jvm.Cond) (p_1 : Int32) (p_2 : Int32) (p_3 : Int32) (p_4 : Int32) (h0 : Heap) (n0 : Nat) (Z0 : n0 ≤ h0.size) :
    MetFree l x (head1 (Jvm.Cond.code x code maxLocals ret :: ws) room_1) (fun a U => a = #[(.int p_1), (.int p_2), (.int p_3), (.int p_4)] ∧ Z.Warmed39 U.vm ∧ U.heap = h0) (fun _ _ _ _ _ => True) (fun _ U o U' => ∃ v L, o = .returned v ∧ own_Q0 Z p_1 p_2 p_3 p_4 h0 n0 v U'.heap L ∧ FrameEnd U o U' L 1 2) := by
  refine MetFree.of_bodySF (plainFor_of_name own_pn0) hisR ?_
  intro p e s m args below meth c s₁ Bd hml0 hP hK
  obtain ⟨rfl, hZ, hh⟩ := hP
  have hx := Bd.exec
  have hby := Bd.bytes
  have hml : c.maxLocals = 14 := hml0
  have hown : s.vm.findClass "com/example/orderly_storefront/orderlystorefront/catalog/LinesCountPinLaw" = some m.cls := findClass_of_methodNamed Bd.named
  have hnm := (name_of_methodNamed Bd.named Bd.method).1
  have X0 : Stand p l e room_1 s m #[(.int p_1), (.int p_2), (.int p_3), (.int p_4)] below meth c s₁ [] 0 0 := Stand.of_body Bd
  have e0 : s₁.heap = h0 := by rw [← hh, Bd.state]; rfl
  have N0 := Fr.nil n0
  have z0 : n0 ≤ h0.size := Z0
  show own_Go p.tables e below (fun t o => t.status = .running ∧ Ended t below o ∧ ∃ v L, o = .returned v ∧ own_Q0 Z p_1 p_2 p_3 p_4 h0 n0 v t.heap L ∧ FrameEnd s o t L 1 2) s₁ (entryFrame m #[(.int p_1), (.int p_2), (.int p_3), (.int p_4)] maxLocals)
  rw [own_ef_own_rm0 m p_1 p_2 p_3 p_4]
  show own_Go _ _ _ _ s₁ (mkF m 0 #[.val (.int p_1), .val (.int p_2), .val (.int p_3), .val (.int p_4), .unset, .unset, .unset, .unset, .unset, .unset, .unset, .unset, .unset, .unset] [])
  refine own_go (fun _ k => XS.iloadN X0.here hx rfl (hb hby at_0) rfl k) ?_
  show own_Go _ _ _ _ s₁ (mkF m 1 #[.val (.int p_1), .val (.int p_2), .val (.int p_3), .val (.int p_4), .unset, .unset, .unset, .unset, .unset, .unset, .unset, .unset, .unset, .unset] [(.int p_1)])
  obtain ⟨_, _, ⟨T1, L1, k1, n1⟩, -, X1, ⟨Lc1, hQ1, l1, y1, z1⟩, st1⟩ := Jvm.LawKit.callS X0 hx (y := (⟨"com/example/orderly_storefront/orderlystorefront/catalog/LinesCountPinLaw", "pick", "(I)I"⟩ : MethodName)) hown (mvT hZ (hw _ (List.mem_of_getElem? (i := 0) rfl))) (mvT hZ (hw _ (List.mem_of_getElem? (i := 1) rfl))) (mvT hZ (hw _ (List.mem_of_getElem? (i := 2) rfl))) (mvT hZ (hw _ (List.mem_of_getElem? (i := 3) rfl))) (by decide) (backOf (W := 0) (own_rm1 l Z a0 hw [] p_1  h0 n0 (by omega) ) hZ (hw _ (List.mem_of_getElem? (i := 3) rfl)) (hw _ (List.mem_of_getElem? (i := 2) rfl)) (by decide) (by decide)) (g := (mkF m 1 #[.val (.int p_1), .val (.int p_2), .val (.int p_3), .val (.int p_4), .unset, .unset, .unset, .unset, .unset, .unset, .unset, .unset, .unset, .unset] [(.int p_1)])) rfl (by rw [hml]; rfl) (argsL := [(.int p_1)]) (rest := []) (lenOf own_pd0 rfl) rfl (by show 2 * 0 + _ ≤ _; exact Nat.le_of_eq rfl) (hb hby at_1) (fun _ _ => ⟨rfl, e0, (by decide : 0 + 0 ≤ _), (by decide : 0 + 0 ≤ _)⟩)
  dsimp only [Pt.U, Pt.locs, Pt.cells, Pt.slots] at X1 l1 y1 z1 st1 hQ1
  have y1 : k1 = 0 := y1
  have z1 : n1 = 0 := z1
  obtain ⟨r2, rfl, N1q, e1⟩ := hQ1
  have N1 : Fr n0 L1 := by rw [l1]; exact Fr.app N0 N1q
  refine own_go (fun _ k => st1 _ k) ?_
  show own_Go _ _ _ _ T1 (mkF m 4 #[.val (.int p_1), .val (.int p_2), .val (.int p_3), .val (.int p_4), .unset, .unset, .unset, .unset, .unset, .unset, .unset, .unset, .unset, .unset] [(.int r2)])
  refine own_go (fun _ k => XS.istore X1.here hx rfl (hb hby at_4) rfl (l' := #[.val (.int p_1), .val (.int p_2), .val (.int p_3), .val (.int p_4), .val (.int r2), .unset, .unset, .unset, .unset, .unset, .unset, .unset, .unset, .unset]) rfl k) ?_
  show own_Go _ _ _ _ T1 (mkF m 6 #[.val (.int p_1), .val (.int p_2), .val (.int p_3), .val (.int p_4), .val (.int r2), .unset, .unset, .unset, .unset, .unset, .unset, .unset, .unset, .unset] [])
  refine own_go (fun _ k => XS.iloadN X1.here hx rfl (hb hby at_6) rfl k) ?_
  show own_Go _ _ _ _ T1 (mkF m 7 #[.val (.int p_1), .val (.int p_2), .val (.int p_3), .val (.int p_4), .val (.int r2), .unset, .unset, .unset, .unset, .unset, .unset, .unset, .unset, .unset] [(.int p_2)])
  obtain ⟨_, _, ⟨T3, L3, k3, n3⟩, -, X3, ⟨Lc3, hQ3, l3, y3, z3⟩, st3⟩ := Jvm.LawKit.callS X1 hx (y := (⟨"com/example/orderly_storefront/orderlystorefront/catalog/LinesCountPinLaw", "pick", "(I)I"⟩ : MethodName)) hown (mvT hZ (hw _ (List.mem_of_getElem? (i := 0) rfl))) (mvT hZ (hw _ (List.mem_of_getElem? (i := 1) rfl))) (mvT hZ (hw _ (List.mem_of_getElem? (i := 2) rfl))) (mvT hZ (hw _ (List.mem_of_getElem? (i := 3) rfl))) (by decide) (backOf (W := 0) (own_rm1 l Z a0 hw [] p_2  h0 n0 (by omega) ) hZ (hw _ (List.mem_of_getElem? (i := 3) rfl)) (hw _ (List.mem_of_getElem? (i := 2) rfl)) (by decide) (by decide)) (g := (mkF m 7 #[.val (.int p_1), .val (.int p_2), .val (.int p_3), .val (.int p_4), .val (.int r2), .unset, .unset, .unset, .unset, .unset, .unset, .unset, .unset, .unset] [(.int p_2)])) rfl (by rw [hml]; rfl) (argsL := [(.int p_2)]) (rest := []) (lenOf own_pd0 rfl) rfl (by show 2 * 0 + _ ≤ _; exact Nat.le_of_eq rfl) (hb hby at_7) (fun _ _ => ⟨rfl, e1, (by show k1 + _ ≤ _; rw [y1]; decide), (by show n1 + _ ≤ _; rw [z1]; decide)⟩)
  dsimp only [Pt.U, Pt.locs, Pt.cells, Pt.slots] at X3 l3 y3 z3 st3 hQ3
  have y3 : k3 = 0 := own_addeq y3 (congrArg (fun q => q) y1) rfl
  have z3 : n3 = 0 := own_addeq z3 (congrArg (fun q => q) z1) rfl
  obtain ⟨r4, rfl, N3q, e3⟩ := hQ3
  have N3 : Fr n0 L3 := by rw [l3]; exact Fr.app N1 N3q
  refine own_go (fun _ k => st3 _ k) ?_
  show own_Go _ _ _ _ T3 (mkF m 10 #[.val (.int p_1), .val (.int p_2), .val (.int p_3), .val (.int p_4), .val (.int r2), .unset, .unset, .unset, .unset, .unset, .unset, .unset, .unset, .unset] [(.int r4)])
  refine own_go (fun _ k => XS.istore X3.here hx rfl (hb hby at_10) rfl (l' := #[.val (.int p_1), .val (.int p_2), .val (.int p_3), .val (.int p_4), .val (.int r2), .val (.int r4), .unset, .unset, .unset, .unset, .unset, .unset, .unset, .unset]) rfl k) ?_
  show own_Go _ _ _ _ T3 (mkF m 12 #[.val (.int p_1), .val (.int p_2), .val (.int p_3), .val (.int p_4), .val (.int r2), .val (.int r4), .unset, .unset, .unset, .unset, .unset, .unset, .unset, .unset] [])
  refine own_go (fun _ k => XS.iloadN X3.here hx rfl (hb hby at_12) rfl k) ?_
  show own_Go _ _ _ _ T3 (mkF m 13 #[.val (.int p_1), .val (.int p_2), .val (.int p_3), .val (.int p_4), .val (.int r2), .val (.int r4), .unset, .unset, .unset, .unset, .unset, .unset, .unset, .unset] [(.int p_3)])
  obtain ⟨_, _, ⟨T5, L5, k5, n5⟩, -, X5, ⟨Lc5, hQ5, l5, y5, z5⟩, st5⟩ := Jvm.LawKit.callS X3 hx (y := (⟨"com/example/orderly_storefront/orderlystorefront/catalog/LinesCountPinLaw", "pick", "(I)I"⟩ : MethodName)) hown (mvT hZ (hw _ (List.mem_of_getElem? (i := 0) rfl))) (mvT hZ (hw _ (List.mem_of_getElem? (i := 1) rfl))) (mvT hZ (hw _ (List.mem_of_getElem? (i := 2) rfl))) (mvT hZ (hw _ (List.mem_of_getElem? (i := 3) rfl))) (by decide) (backOf (W := 0) (own_rm1 l Z a0 hw [] p_3  h0 n0 (by omega) ) hZ (hw _ (List.mem_of_getElem? (i := 3) rfl)) (hw _ (List.mem_of_getElem? (i := 2) rfl)) (by decide) (by decide)) (g := (mkF m 13 #[.val (.int p_1), .val (.int p_2), .val (.int p_3), .val (.int p_4), .val (.int r2), .val (.int r4), .unset, .unset, .unset, .unset, .unset, .unset, .unset, .unset] [(.int p_3)])) rfl (by rw [hml]; rfl) (argsL := [(.int p_3)]) (rest := []) (lenOf own_pd0 rfl) rfl (by show 2 * 0 + _ ≤ _; exact Nat.le_of_eq rfl) (hb hby at_13) (fun _ _ => ⟨rfl, e3, (by show k3 + _ ≤ _; rw [y3]; decide), (by show n3 + _ ≤ _; rw [z3]; decide)⟩)
  dsimp only [Pt.U, Pt.locs, Pt.cells, Pt.slots] at X5 l5 y5 z5 st5 hQ5
  have y5 : k5 = 0 := own_addeq y5 (congrArg (fun q => q) y3) rfl
  have z5 : n5 = 0 := own_addeq z5 (congrArg (fun q => q) z3) rfl
  obtain ⟨r6, rfl, N5q, e5⟩ := hQ5
  have N5 : Fr n0 L5 := by rw [l5]; exact Fr.app N3 N5q
  refine own_go (fun _ k => st5 _ k) ?_
  show own_Go _ _ _ _ T5 (mkF m 16 #[.val (.int p_1), .val (.int p_2), .val (.int p_3), .val (.int p_4), .val (.int r2), .val (.int r4), .unset, .unset, .unset, .unset, .unset, .unset, .unset, .unset] [(.int r6)])
  refine own_go (fun _ k => XS.istore X5.here hx rfl (hb hby at_16) rfl (l' := #[.val (.int p_1), .val (.int p_2), .val (.int p_3), .val (.int p_4), .val (.int r2), .val (.int r4), .val (.int r6), .unset, .unset, .unset, .unset, .unset, .unset, .unset]) rfl k) ?_
  show own_Go _ _ _ _ T5 (mkF m 18 #[.val (.int p_1), .val (.int p_2), .val (.int p_3), .val (.int p_4), .val (.int r2), .val (.int r4), .val (.int r6), .unset, .unset, .unset, .unset, .unset, .unset, .unset] [])
  refine own_go (fun _ k => XS.iloadN X5.here hx rfl (hb hby at_18) rfl k) ?_
  show own_Go _ _ _ _ T5 (mkF m 19 #[.val (.int p_1), .val (.int p_2), .val (.int p_3), .val (.int p_4), .val (.int r2), .val (.int r4), .val (.int r6), .unset, .unset, .unset, .unset, .unset, .unset, .unset] [(.int p_4)])
  obtain ⟨_, _, ⟨T7, L7, k7, n7⟩, -, X7, ⟨Lc7, hQ7, l7, y7, z7⟩, st7⟩ := Jvm.LawKit.callS X5 hx (y := (⟨"com/example/orderly_storefront/orderlystorefront/catalog/LinesCountPinLaw", "pick", "(I)I"⟩ : MethodName)) hown (mvT hZ (hw _ (List.mem_of_getElem? (i := 0) rfl))) (mvT hZ (hw _ (List.mem_of_getElem? (i := 1) rfl))) (mvT hZ (hw _ (List.mem_of_getElem? (i := 2) rfl))) (mvT hZ (hw _ (List.mem_of_getElem? (i := 3) rfl))) (by decide) (backOf (W := 0) (own_rm1 l Z a0 hw [] p_4  h0 n0 (by omega) ) hZ (hw _ (List.mem_of_getElem? (i := 3) rfl)) (hw _ (List.mem_of_getElem? (i := 2) rfl)) (by decide) (by decide)) (g := (mkF m 19 #[.val (.int p_1), .val (.int p_2), .val (.int p_3), .val (.int p_4), .val (.int r2), .val (.int r4), .val (.int r6), .unset, .unset, .unset, .unset, .unset, .unset, .unset] [(.int p_4)])) rfl (by rw [hml]; rfl) (argsL := [(.int p_4)]) (rest := []) (lenOf own_pd0 rfl) rfl (by show 2 * 0 + _ ≤ _; exact Nat.le_of_eq rfl) (hb hby at_19) (fun _ _ => ⟨rfl, e5, (by show k5 + _ ≤ _; rw [y5]; decide), (by show n5 + _ ≤ _; rw [z5]; decide)⟩)
  dsimp only [Pt.U, Pt.locs, Pt.cells, Pt.slots] at X7 l7 y7 z7 st7 hQ7
  have y7 : k7 = 0 := own_addeq y7 (congrArg (fun q => q) y5) rfl
  have z7 : n7 = 0 := own_addeq z7 (congrArg (fun q => q) z5) rfl
  obtain ⟨r8, rfl, N7q, e7⟩ := hQ7
  have N7 : Fr n0 L7 := by rw [l7]; exact Fr.app N5 N7q
  refine own_go (fun _ k => st7 _ k) ?_
  show own_Go _ _ _ _ T7 (mkF m 22 #[.val (.int p_1), .val (.int p_2), .val (.int p_3), .val (.int p_4), .val (.int r2), .val (.int r4), .val (.int r6), .unset, .unset, .unset, .unset, .unset, .unset, .unset] [(.int r8)])
  refine own_go (fun _ k => XS.istore X7.here hx rfl (hb hby at_22) rfl (l' := #[.val (.int p_1), .val (.int p_2), .val (.int p_3), .val (.int p_4), .val (.int r2), .val (.int r4), .val (.int r6), .val (.int r8), .unset, .unset, .unset, .unset, .unset, .unset]) rfl k) ?_
  show own_Go _ _ _ _ T7 (mkF m 24 #[.val (.int p_1), .val (.int p_2), .val (.int p_3), .val (.int p_4), .val (.int r2), .val (.int r4), .val (.int r6), .val (.int r8), .unset, .unset, .unset, .unset, .unset, .unset] [])
  obtain ⟨T9, h9, X9, e9, E9, A9, D9, Y9, st9⟩ := newO X7 hx hZ hown (hw _ (List.mem_of_getElem? (i := 4) rfl)) (hw _ (List.mem_of_getElem? (i := 5) rfl)) (hw _ (List.mem_of_getElem? (i := 6) rfl)) e7 (g := (mkF m 24 #[.val (.int p_1), .val (.int p_2), .val (.int p_3), .val (.int p_4), .val (.int r2), .val (.int r4), .val (.int r6), .val (.int r8), .unset, .unset, .unset, .unset, .unset, .unset] [])) rfl (hb hby at_24) (by rw [y7]; decide) (by rw [z7]; decide)
  obtain ⟨b9, g9⟩ : ∃ z, z = h0.size := ⟨_, rfl⟩
  rw [← g9] at A9 D9 Y9 st9
  have z10 := E9.1
  have lt_b9 := own_lt A9.lt
  have F_current_b9 : Fld Z h9 b9 "com/example/orderly_storefront/orderlystorefront/catalog/CsvReader$Lines" "current" "I" (.int (0 : Int32)) := D9 (Or.inl (hw _ (List.mem_of_getElem? (i := 14) rfl))) (ty := .int) (by decide)
  have F_previous_b9 : Fld Z h9 b9 "com/example/orderly_storefront/orderlystorefront/catalog/CsvReader$Lines" "previous" "I" (.int (0 : Int32)) := D9 (Or.inl (hw _ (List.mem_of_getElem? (i := 16) rfl))) (ty := .int) (by decide)
  refine own_go (fun _ k => st9 _ k) ?_
  show own_Go _ _ _ _ T9 (mkF m 27 #[.val (.int p_1), .val (.int p_2), .val (.int p_3), .val (.int p_4), .val (.int r2), .val (.int r4), .val (.int r6), .val (.int r8), .unset, .unset, .unset, .unset, .unset, .unset] [(.ref b9)])
  refine own_go (fun _ k => XS.dup X9.here hx rfl (hb hby at_27) rfl rfl k) ?_
  show own_Go _ _ _ _ T9 (mkF m 28 #[.val (.int p_1), .val (.int p_2), .val (.int p_3), .val (.int p_4), .val (.int r2), .val (.int r4), .val (.int r6), .val (.int r8), .unset, .unset, .unset, .unset, .unset, .unset] [(.ref b9), (.ref b9)])
  obtain ⟨_, _, ⟨T11, L11, k11, n11⟩, -, X11, ⟨Lc11, hQ11, l11, y11, z11⟩, st11⟩ := X9.specialBack hx (y := (⟨"com/example/orderly_storefront/orderlystorefront/catalog/CsvReader$Lines", "<init>", "()V"⟩ : MethodName)) rfl hown (mvT hZ (hw _ (List.mem_of_getElem? (i := 7) rfl))) (mvT hZ (hw _ (List.mem_of_getElem? (i := 8) rfl))) (mvT hZ (hw _ (List.mem_of_getElem? (i := 9) rfl))) (by decide) (backOf (W := 1) (own_rm2 l Z a0 hw [] b9 (0 : Int32) (0 : Int32) h9 n0 (by omega) A9 F_current_b9 F_previous_b9 (by omega)) hZ (hw _ (List.mem_of_getElem? (i := 9) rfl)) (hw _ (List.mem_of_getElem? (i := 6) rfl)) (by decide) (by decide)) (g := (mkF m 28 #[.val (.int p_1), .val (.int p_2), .val (.int p_3), .val (.int p_4), .val (.int r2), .val (.int r4), .val (.int r6), .val (.int r8), .unset, .unset, .unset, .unset, .unset, .unset] [(.ref b9), (.ref b9)])) rfl (by rw [hml]; rfl) (Steps.refl _) (a := b9) (argsL := []) (rest := [(.ref b9)]) (lenOf own_pd1 rfl) rfl (by show 2 * 0 + _ ≤ _; exact Nat.le_of_eq rfl) (hb hby at_28) (fun _ _ => ⟨rfl, e9, (by show k7 + 1 + _ ≤ _; rw [y7]; decide), (by show n7 + 2 + _ ≤ _; rw [z7]; decide)⟩)
  dsimp only [Pt.U, Pt.locs, Pt.cells, Pt.slots] at X11 l11 y11 z11 st11 hQ11
  have y11 : k11 = 1 := own_addeq y11 (congrArg (fun q => q + 1) y7) rfl
  have z11 : n11 = 2 := own_addeq z11 (congrArg (fun q => q + 2) z7) rfl
  obtain ⟨rfl, N11q, K11q, f12, f13, f14⟩ := hQ11
  have N11 : Fr n0 L11 := by rw [l11]; exact Fr.app N7 N11q
  have z15 := K11q.1
  have z16 := own_lt f12.lt
  have z17 := own_lt f13.lt
  have z18 := own_lt f14.lt
  refine own_go (fun _ k => st11.trans k) ?_
  show own_Go _ _ _ _ T11 (mkF m 31 #[.val (.int p_1), .val (.int p_2), .val (.int p_3), .val (.int p_4), .val (.int r2), .val (.int r4), .val (.int r6), .val (.int r8), .unset, .unset, .unset, .unset, .unset, .unset] [(.ref b9)])
  refine own_go (fun _ k => XS.astore X11.here hx rfl (hb hby at_31) rfl rfl (l' := #[.val (.int p_1), .val (.int p_2), .val (.int p_3), .val (.int p_4), .val (.int r2), .val (.int r4), .val (.int r6), .val (.int r8), .val (.ref b9), .unset, .unset, .unset, .unset, .unset]) rfl k) ?_
  show own_Go _ _ _ _ T11 (mkF m 33 #[.val (.int p_1), .val (.int p_2), .val (.int p_3), .val (.int p_4), .val (.int r2), .val (.int r4), .val (.int r6), .val (.int r8), .val (.ref b9), .unset, .unset, .unset, .unset, .unset] [])
  refine own_go (fun _ k => XS.aload X11.here hx rfl (hb hby at_33) rfl rfl k) ?_
  show own_Go _ _ _ _ T11 (mkF m 35 #[.val (.int p_1), .val (.int p_2), .val (.int p_3), .val (.int p_4), .val (.int r2), .val (.int r4), .val (.int r6), .val (.int r8), .val (.ref b9), .unset, .unset, .unset, .unset, .unset] [(.ref b9)])
  obtain ⟨cq19, kq19, q19a, q19b, q19c⟩ := isOf hZ rfl f12
  obtain ⟨_, _, ⟨T19, L19, k19, n19⟩, -, X19, ⟨Lc19, hQ19, l19, y19, z19⟩, st19⟩ := X11.virtualBack hx (y := (⟨"com/example/orderly_storefront/orderlystorefront/catalog/CsvReader$Lines", "current", "()I"⟩ : MethodName)) (z := (⟨"com/example/orderly_storefront/orderlystorefront/catalog/CsvReader$Lines", "current", "()I"⟩ : MethodName)) hown (mvT hZ (hw _ (List.mem_of_getElem? (i := 17) rfl))) (mvT hZ (hw _ (List.mem_of_getElem? (i := 18) rfl))) (notFace_of_selects (args := #[]) (mvT hZ (hw _ (List.mem_of_getElem? (i := 20) rfl)))) (mvT hZ (hw _ (List.mem_of_getElem? (i := 20) rfl))) (mvT hZ (hw _ (List.mem_of_getElem? (i := 19) rfl))) (by decide) (backOf (W := 0) (own_rm4 l Z a0 hw [] b9 (1 : Int32) T11.heap n0 (by omega) f13) hZ (hw _ (List.mem_of_getElem? (i := 21) rfl)) (hw _ (List.mem_of_getElem? (i := 6) rfl)) (by decide) (by decide)) q19a q19c (g := (mkF m 35 #[.val (.int p_1), .val (.int p_2), .val (.int p_3), .val (.int p_4), .val (.int r2), .val (.int r4), .val (.int r6), .val (.int r8), .val (.ref b9), .unset, .unset, .unset, .unset, .unset] [(.ref b9)])) rfl (by rw [hml]; rfl) (Steps.refl _) (argsL := []) (rest := []) (lenOf own_pd2 rfl) rfl (by show 2 * 0 + _ ≤ _; exact Nat.le_of_eq rfl) (hb hby at_35) (fun _ _ => ⟨rfl, rfl, (by show k11 + _ ≤ _; rw [y11]; decide), (by show n11 + _ ≤ _; rw [z11]; decide)⟩)
  dsimp only [Pt.U, Pt.locs, Pt.cells, Pt.slots] at X19 l19 y19 z19 st19 hQ19
  have y19 : k19 = 1 := own_addeq y19 (congrArg (fun q => q) y11) rfl
  have z19 : n19 = 2 := own_addeq z19 (congrArg (fun q => q) z11) rfl
  obtain ⟨rfl, N19q, e19⟩ := hQ19
  have N19 : Fr n0 L19 := by rw [l19]; exact Fr.app N11 N19q
  refine own_go (fun _ k => st19.trans k) ?_
  show own_Go _ _ _ _ T19 (mkF m 38 #[.val (.int p_1), .val (.int p_2), .val (.int p_3), .val (.int p_4), .val (.int r2), .val (.int r4), .val (.int r6), .val (.int r8), .val (.ref b9), .unset, .unset, .unset, .unset, .unset] [(.int (1 : Int32))])
  refine own_go (fun _ k => XS.iconst X19.here hx rfl (hb hby at_38) k) ?_
  show own_Go _ _ _ _ T19 (mkF m 39 #[.val (.int p_1), .val (.int p_2), .val (.int p_3), .val (.int p_4), .val (.int r2), .val (.int r4), .val (.int r6), .val (.int r8), .val (.ref b9), .unset, .unset, .unset, .unset, .unset] [(.int (1 : Int32)), (.int (1 : Int32))])
  have hc20 : (1 : Int32) = (1 : Int32) := by decide
  refine own_go (fun _ k => XS.icmpNo X19.here hx rfl (hb hby at_39) rfl (Jvm.Free.XT.ii_ne_f hc20) k) ?_
  show own_Go _ _ _ _ T19 (mkF m 42 #[.val (.int p_1), .val (.int p_2), .val (.int p_3), .val (.int p_4), .val (.int r2), .val (.int r4), .val (.int r6), .val (.int r8), .val (.ref b9), .unset, .unset, .unset, .unset, .unset] [])
  refine own_go (fun _ k => XS.iconst X19.here hx rfl (hb hby at_42) k) ?_
  show own_Go _ _ _ _ T19 (mkF m 43 #[.val (.int p_1), .val (.int p_2), .val (.int p_3), .val (.int p_4), .val (.int r2), .val (.int r4), .val (.int r6), .val (.int r8), .val (.ref b9), .unset, .unset, .unset, .unset, .unset] [(.int (1 : Int32))])
  refine own_go (fun _ k => XS.goto X19.here hx rfl (pc0 := 43) (pc' := 47) rfl (hb hby at_43) (by decide) (by decide) k) ?_
  show own_Go _ _ _ _ T19 (mkF m 47 #[.val (.int p_1), .val (.int p_2), .val (.int p_3), .val (.int p_4), .val (.int r2), .val (.int r4), .val (.int r6), .val (.int r8), .val (.ref b9), .unset, .unset, .unset, .unset, .unset] [(.int (1 : Int32))])
  refine own_go (fun _ k => XS.istore X19.here hx rfl (hb hby at_47) rfl (l' := #[.val (.int p_1), .val (.int p_2), .val (.int p_3), .val (.int p_4), .val (.int r2), .val (.int r4), .val (.int r6), .val (.int r8), .val (.ref b9), .val (.int (1 : Int32)), .unset, .unset, .unset, .unset]) rfl k) ?_
  show own_Go _ _ _ _ T19 (mkF m 49 #[.val (.int p_1), .val (.int p_2), .val (.int p_3), .val (.int p_4), .val (.int r2), .val (.int r4), .val (.int r6), .val (.int r8), .val (.ref b9), .val (.int (1 : Int32)), .unset, .unset, .unset, .unset] [])
  refine own_go (fun _ k => XS.aload X19.here hx rfl (hb hby at_49) rfl rfl k) ?_
  show own_Go _ _ _ _ T19 (mkF m 51 #[.val (.int p_1), .val (.int p_2), .val (.int p_3), .val (.int p_4), .val (.int r2), .val (.int r4), .val (.int r6), .val (.int r8), .val (.ref b9), .val (.int (1 : Int32)), .unset, .unset, .unset, .unset] [(.ref b9)])
  refine own_go (fun _ k => XS.iload X19.here hx rfl (hb hby at_51) rfl k) ?_
  show own_Go _ _ _ _ T19 (mkF m 53 #[.val (.int p_1), .val (.int p_2), .val (.int p_3), .val (.int p_4), .val (.int r2), .val (.int r4), .val (.int r6), .val (.int r8), .val (.ref b9), .val (.int (1 : Int32)), .unset, .unset, .unset, .unset] [(.int r2), (.ref b9)])
  obtain ⟨cq21, kq21, q21a, q21b, q21c⟩ := isOf hZ e19 f12
  obtain ⟨_, _, ⟨T21, L21, k21, n21⟩, -, X21, ⟨Lc21, hQ21, l21, y21, z21⟩, st21⟩ := X19.virtualBack hx (y := (⟨"com/example/orderly_storefront/orderlystorefront/catalog/CsvReader$Lines", "count", "(I)V"⟩ : MethodName)) (z := (⟨"com/example/orderly_storefront/orderlystorefront/catalog/CsvReader$Lines", "count", "(I)V"⟩ : MethodName)) hown (mvT hZ (hw _ (List.mem_of_getElem? (i := 22) rfl))) (mvT hZ (hw _ (List.mem_of_getElem? (i := 23) rfl))) (notFace_of_selects (args := #[]) (mvT hZ (hw _ (List.mem_of_getElem? (i := 25) rfl)))) (mvT hZ (hw _ (List.mem_of_getElem? (i := 25) rfl))) (mvT hZ (hw _ (List.mem_of_getElem? (i := 24) rfl))) (by decide) (backOf (W := 0) (own_rm5 l Z a0 hw [] b9 r2 (1 : Int32) (-1 : Int32) T11.heap n0 (by omega) f13 f12 f14 (by omega)) hZ (hw _ (List.mem_of_getElem? (i := 26) rfl)) (hw _ (List.mem_of_getElem? (i := 6) rfl)) (by decide) (by decide)) q21a q21c (g := (mkF m 53 #[.val (.int p_1), .val (.int p_2), .val (.int p_3), .val (.int p_4), .val (.int r2), .val (.int r4), .val (.int r6), .val (.int r8), .val (.ref b9), .val (.int (1 : Int32)), .unset, .unset, .unset, .unset] [(.int r2), (.ref b9)])) rfl (by rw [hml]; rfl) (Steps.refl _) (argsL := [(.int r2)]) (rest := []) (lenOf own_pd3 rfl) rfl (by show 2 * 0 + _ ≤ _; exact Nat.le_of_eq rfl) (hb hby at_53) (fun _ _ => ⟨rfl, e19, (by show k19 + _ ≤ _; rw [y19]; decide), (by show n19 + _ ≤ _; rw [z19]; decide)⟩)
  dsimp only [Pt.U, Pt.locs, Pt.cells, Pt.slots] at X21 l21 y21 z21 st21 hQ21
  have y21 : k21 = 1 := own_addeq y21 (congrArg (fun q => q) y19) rfl
  have z21 : n21 = 2 := own_addeq z21 (congrArg (fun q => q) z19) rfl
  obtain ⟨rfl, N21q, K21q, f22, f23, f24⟩ := hQ21
  have N21 : Fr n0 L21 := by rw [l21]; exact Fr.app N19 N21q
  have z25 := K21q.1
  obtain ⟨v26, hdv26⟩ : ∃ z : Int32, z = (own_rm5_current r2 (1 : Int32) (-1 : Int32)) := ⟨_, rfl⟩
  rw [← hdv26] at f22
  have z27 := own_lt f22.lt
  have z28 := own_lt f23.lt
  have z29 := own_lt f24.lt
  refine own_go (fun _ k => st21.trans k) ?_
  show own_Go _ _ _ _ T21 (mkF m 56 #[.val (.int p_1), .val (.int p_2), .val (.int p_3), .val (.int p_4), .val (.int r2), .val (.int r4), .val (.int r6), .val (.int r8), .val (.ref b9), .val (.int (1 : Int32)), .unset, .unset, .unset, .unset] [])
  refine own_go (fun _ k => XS.iconst X21.here hx rfl (hb hby at_56) k) ?_
  show own_Go _ _ _ _ T21 (mkF m 57 #[.val (.int p_1), .val (.int p_2), .val (.int p_3), .val (.int p_4), .val (.int r2), .val (.int r4), .val (.int r6), .val (.int r8), .val (.ref b9), .val (.int (1 : Int32)), .unset, .unset, .unset, .unset] [(.int (1 : Int32))])
  refine own_go (fun _ k => XS.iload X21.here hx rfl (hb hby at_57) rfl k) ?_
  show own_Go _ _ _ _ T21 (mkF m 59 #[.val (.int p_1), .val (.int p_2), .val (.int p_3), .val (.int p_4), .val (.int r2), .val (.int r4), .val (.int r6), .val (.int r8), .val (.ref b9), .val (.int (1 : Int32)), .unset, .unset, .unset, .unset] [(.int r2), (.int (1 : Int32))])
  obtain ⟨_, _, ⟨T30, L30, k30, n30⟩, -, X30, ⟨Lc30, hQ30, l30, y30, z30⟩, st30⟩ := Jvm.LawKit.callS X21 hx (y := (⟨"com/example/orderly_storefront/orderlystorefront/catalog/LinesCountPinLaw", "cr", "(I)I"⟩ : MethodName)) hown (mvT hZ (hw _ (List.mem_of_getElem? (i := 27) rfl))) (mvT hZ (hw _ (List.mem_of_getElem? (i := 28) rfl))) (mvT hZ (hw _ (List.mem_of_getElem? (i := 2) rfl))) (mvT hZ (hw _ (List.mem_of_getElem? (i := 29) rfl))) (by decide) (backOf (W := 1) (own_rm6 l Z a0 hw [] r2  T21.heap n0 (by omega) ) hZ (hw _ (List.mem_of_getElem? (i := 29) rfl)) (hw _ (List.mem_of_getElem? (i := 2) rfl)) (by decide) (by decide)) (g := (mkF m 59 #[.val (.int p_1), .val (.int p_2), .val (.int p_3), .val (.int p_4), .val (.int r2), .val (.int r4), .val (.int r6), .val (.int r8), .val (.ref b9), .val (.int (1 : Int32)), .unset, .unset, .unset, .unset] [(.int r2), (.int (1 : Int32))])) rfl (by rw [hml]; rfl) (argsL := [(.int r2)]) (rest := [(.int (1 : Int32))]) (lenOf own_pd0 rfl) rfl (by show 2 * 0 + _ ≤ _; exact Nat.le_of_eq rfl) (hb hby at_59) (fun _ _ => ⟨rfl, rfl, (by show k21 + _ ≤ _; rw [y21]; decide), (by show n21 + _ ≤ _; rw [z21]; decide)⟩)
  dsimp only [Pt.U, Pt.locs, Pt.cells, Pt.slots] at X30 l30 y30 z30 st30 hQ30
  have y30 : k30 = 1 := own_addeq y30 (congrArg (fun q => q) y21) rfl
  have z30 : n30 = 2 := own_addeq z30 (congrArg (fun q => q) z21) rfl
  obtain ⟨r31, rfl, N30q, hr_r31, e30⟩ := hQ30
  have N30 : Fr n0 L30 := by rw [l30]; exact Fr.app N21 N30q
  refine own_go (fun _ k => st30 _ k) ?_
  show own_Go _ _ _ _ T30 (mkF m 62 #[.val (.int p_1), .val (.int p_2), .val (.int p_3), .val (.int p_4), .val (.int r2), .val (.int r4), .val (.int r6), .val (.int r8), .val (.ref b9), .val (.int (1 : Int32)), .unset, .unset, .unset, .unset] [(.int r31), (.int (1 : Int32))])
  refine own_go (fun _ k => XS.iadd X30.here hx rfl (hb hby at_62) rfl k) ?_
  show own_Go _ _ _ _ T30 (mkF m 63 #[.val (.int p_1), .val (.int p_2), .val (.int p_3), .val (.int p_4), .val (.int r2), .val (.int r4), .val (.int r6), .val (.int r8), .val (.ref b9), .val (.int (1 : Int32)), .unset, .unset, .unset, .unset] [(.int ((1 : Int32) + r31))])
  refine own_go (fun _ k => XS.iload X30.here hx rfl (hb hby at_63) rfl k) ?_
  show own_Go _ _ _ _ T30 (mkF m 65 #[.val (.int p_1), .val (.int p_2), .val (.int p_3), .val (.int p_4), .val (.int r2), .val (.int r4), .val (.int r6), .val (.int r8), .val (.ref b9), .val (.int (1 : Int32)), .unset, .unset, .unset, .unset] [(.int r2), (.int ((1 : Int32) + r31))])
  obtain ⟨_, _, ⟨T32, L32, k32, n32⟩, -, X32, ⟨Lc32, hQ32, l32, y32, z32⟩, st32⟩ := Jvm.LawKit.callS X30 hx (y := (⟨"com/example/orderly_storefront/orderlystorefront/catalog/LinesCountPinLaw", "lf", "(I)I"⟩ : MethodName)) hown (mvT hZ (hw _ (List.mem_of_getElem? (i := 30) rfl))) (mvT hZ (hw _ (List.mem_of_getElem? (i := 31) rfl))) (mvT hZ (hw _ (List.mem_of_getElem? (i := 2) rfl))) (mvT hZ (hw _ (List.mem_of_getElem? (i := 32) rfl))) (by decide) (backOf (W := 1) (own_rm7 l Z a0 hw [] r2  T21.heap n0 (by omega) ) hZ (hw _ (List.mem_of_getElem? (i := 32) rfl)) (hw _ (List.mem_of_getElem? (i := 2) rfl)) (by decide) (by decide)) (g := (mkF m 65 #[.val (.int p_1), .val (.int p_2), .val (.int p_3), .val (.int p_4), .val (.int r2), .val (.int r4), .val (.int r6), .val (.int r8), .val (.ref b9), .val (.int (1 : Int32)), .unset, .unset, .unset, .unset] [(.int r2), (.int ((1 : Int32) + r31))])) rfl (by rw [hml]; rfl) (argsL := [(.int r2)]) (rest := [(.int ((1 : Int32) + r31))]) (lenOf own_pd0 rfl) rfl (by show 2 * 0 + _ ≤ _; exact Nat.le_of_eq rfl) (hb hby at_65) (fun _ _ => ⟨rfl, e30, (by show k30 + _ ≤ _; rw [y30]; decide), (by show n30 + _ ≤ _; rw [z30]; decide)⟩)
  dsimp only [Pt.U, Pt.locs, Pt.cells, Pt.slots] at X32 l32 y32 z32 st32 hQ32
  have y32 : k32 = 1 := own_addeq y32 (congrArg (fun q => q) y30) rfl
  have z32 : n32 = 2 := own_addeq z32 (congrArg (fun q => q) z30) rfl
  obtain ⟨r33, rfl, N32q, hr_r33, e32⟩ := hQ32
  have N32 : Fr n0 L32 := by rw [l32]; exact Fr.app N30 N32q
  refine own_go (fun _ k => st32 _ k) ?_
  show own_Go _ _ _ _ T32 (mkF m 68 #[.val (.int p_1), .val (.int p_2), .val (.int p_3), .val (.int p_4), .val (.int r2), .val (.int r4), .val (.int r6), .val (.int r8), .val (.ref b9), .val (.int (1 : Int32)), .unset, .unset, .unset, .unset] [(.int r33), (.int ((1 : Int32) + r31))])
  refine own_go (fun _ k => XS.iadd X32.here hx rfl (hb hby at_68) rfl k) ?_
  show own_Go _ _ _ _ T32 (mkF m 69 #[.val (.int p_1), .val (.int p_2), .val (.int p_3), .val (.int p_4), .val (.int r2), .val (.int r4), .val (.int r6), .val (.int r8), .val (.ref b9), .val (.int (1 : Int32)), .unset, .unset, .unset, .unset] [(.int (((1 : Int32) + r31) + r33))])
  refine own_go (fun _ k => XS.istore X32.here hx rfl (hb hby at_69) rfl (l' := #[.val (.int p_1), .val (.int p_2), .val (.int p_3), .val (.int p_4), .val (.int r2), .val (.int r4), .val (.int r6), .val (.int r8), .val (.ref b9), .val (.int (1 : Int32)), .val (.int (((1 : Int32) + r31) + r33)), .unset, .unset, .unset]) rfl k) ?_
  show own_Go _ _ _ _ T32 (mkF m 71 #[.val (.int p_1), .val (.int p_2), .val (.int p_3), .val (.int p_4), .val (.int r2), .val (.int r4), .val (.int r6), .val (.int r8), .val (.ref b9), .val (.int (1 : Int32)), .val (.int (((1 : Int32) + r31) + r33)), .unset, .unset, .unset] [])
  generalize hdv34 : (((1 : Int32) + r31) + r33) = v34
  show own_Go _ _ _ _ T32 (mkF m 71 #[.val (.int p_1), .val (.int p_2), .val (.int p_3), .val (.int p_4), .val (.int r2), .val (.int r4), .val (.int r6), .val (.int r8), .val (.ref b9), .val (.int (1 : Int32)), .val (.int v34), .unset, .unset, .unset] [])
  refine own_go (fun _ k => XS.iload X32.here hx rfl (hb hby at_71) rfl k) ?_
  show own_Go _ _ _ _ T32 (mkF m 73 #[.val (.int p_1), .val (.int p_2), .val (.int p_3), .val (.int p_4), .val (.int r2), .val (.int r4), .val (.int r6), .val (.int r8), .val (.ref b9), .val (.int (1 : Int32)), .val (.int v34), .unset, .unset, .unset] [(.int (1 : Int32))])
  have hc35 : ¬ ((1 : Int32) = 0) := by decide
  refine own_go (fun _ k => XS.ifNo X32.here hx rfl (hb hby at_73) rfl (Jvm.Free.XT.i0_eq_f hc35) k) ?_
  show own_Go _ _ _ _ T32 (mkF m 76 #[.val (.int p_1), .val (.int p_2), .val (.int p_3), .val (.int p_4), .val (.int r2), .val (.int r4), .val (.int r6), .val (.int r8), .val (.ref b9), .val (.int (1 : Int32)), .val (.int v34), .unset, .unset, .unset] [])
  refine own_go (fun _ k => XS.aload X32.here hx rfl (hb hby at_76) rfl rfl k) ?_
  show own_Go _ _ _ _ T32 (mkF m 78 #[.val (.int p_1), .val (.int p_2), .val (.int p_3), .val (.int p_4), .val (.int r2), .val (.int r4), .val (.int r6), .val (.int r8), .val (.ref b9), .val (.int (1 : Int32)), .val (.int v34), .unset, .unset, .unset] [(.ref b9)])
  obtain ⟨cq36, kq36, q36a, q36b, q36c⟩ := isOf hZ e32 f23
  obtain ⟨_, _, ⟨T36, L36, k36, n36⟩, -, X36, ⟨Lc36, hQ36, l36, y36, z36⟩, st36⟩ := X32.virtualBack hx (y := (⟨"com/example/orderly_storefront/orderlystorefront/catalog/CsvReader$Lines", "current", "()I"⟩ : MethodName)) (z := (⟨"com/example/orderly_storefront/orderlystorefront/catalog/CsvReader$Lines", "current", "()I"⟩ : MethodName)) hown (mvT hZ (hw _ (List.mem_of_getElem? (i := 17) rfl))) (mvT hZ (hw _ (List.mem_of_getElem? (i := 18) rfl))) (notFace_of_selects (args := #[]) (mvT hZ (hw _ (List.mem_of_getElem? (i := 20) rfl)))) (mvT hZ (hw _ (List.mem_of_getElem? (i := 20) rfl))) (mvT hZ (hw _ (List.mem_of_getElem? (i := 19) rfl))) (by decide) (backOf (W := 0) (own_rm4 l Z a0 hw [] b9 v26 T21.heap n0 (by omega) f22) hZ (hw _ (List.mem_of_getElem? (i := 21) rfl)) (hw _ (List.mem_of_getElem? (i := 6) rfl)) (by decide) (by decide)) q36a q36c (g := (mkF m 78 #[.val (.int p_1), .val (.int p_2), .val (.int p_3), .val (.int p_4), .val (.int r2), .val (.int r4), .val (.int r6), .val (.int r8), .val (.ref b9), .val (.int (1 : Int32)), .val (.int v34), .unset, .unset, .unset] [(.ref b9)])) rfl (by rw [hml]; rfl) (Steps.refl _) (argsL := []) (rest := []) (lenOf own_pd2 rfl) rfl (by show 2 * 0 + _ ≤ _; exact Nat.le_of_eq rfl) (hb hby at_78) (fun _ _ => ⟨rfl, e32, (by show k32 + _ ≤ _; rw [y32]; decide), (by show n32 + _ ≤ _; rw [z32]; decide)⟩)
  dsimp only [Pt.U, Pt.locs, Pt.cells, Pt.slots] at X36 l36 y36 z36 st36 hQ36
  have y36 : k36 = 1 := own_addeq y36 (congrArg (fun q => q) y32) rfl
  have z36 : n36 = 2 := own_addeq z36 (congrArg (fun q => q) z32) rfl
  obtain ⟨rfl, N36q, e36⟩ := hQ36
  have N36 : Fr n0 L36 := by rw [l36]; exact Fr.app N32 N36q
  refine own_go (fun _ k => st36.trans k) ?_
  show own_Go _ _ _ _ T36 (mkF m 81 #[.val (.int p_1), .val (.int p_2), .val (.int p_3), .val (.int p_4), .val (.int r2), .val (.int r4), .val (.int r6), .val (.int r8), .val (.ref b9), .val (.int (1 : Int32)), .val (.int v34), .unset, .unset, .unset] [(.int v26)])
  refine own_go (fun _ k => XS.iload X36.here hx rfl (hb hby at_81) rfl k) ?_
  show own_Go _ _ _ _ T36 (mkF m 83 #[.val (.int p_1), .val (.int p_2), .val (.int p_3), .val (.int p_4), .val (.int r2), .val (.int r4), .val (.int r6), .val (.int r8), .val (.ref b9), .val (.int (1 : Int32)), .val (.int v34), .unset, .unset, .unset] [(.int v34), (.int v26)])
  have hc37 : v26 = v34 := own_t0_0 r2 v26 r31 r33 v34 hdv26 hr_r31 hr_r33 hdv34
  refine own_go (fun _ k => XS.icmpNo X36.here hx rfl (hb hby at_83) rfl (Jvm.Free.XT.ii_ne_f hc37) k) ?_
  show own_Go _ _ _ _ T36 (mkF m 86 #[.val (.int p_1), .val (.int p_2), .val (.int p_3), .val (.int p_4), .val (.int r2), .val (.int r4), .val (.int r6), .val (.int r8), .val (.ref b9), .val (.int (1 : Int32)), .val (.int v34), .unset, .unset, .unset] [])
  refine own_go (fun _ k => XS.iconst X36.here hx rfl (hb hby at_86) k) ?_
  show own_Go _ _ _ _ T36 (mkF m 87 #[.val (.int p_1), .val (.int p_2), .val (.int p_3), .val (.int p_4), .val (.int r2), .val (.int r4), .val (.int r6), .val (.int r8), .val (.ref b9), .val (.int (1 : Int32)), .val (.int v34), .unset, .unset, .unset] [(.int (1 : Int32))])
  refine own_go (fun _ k => XS.goto X36.here hx rfl (pc0 := 87) (pc' := 91) rfl (hb hby at_87) (by decide) (by decide) k) ?_
  show own_Go _ _ _ _ T36 (mkF m 91 #[.val (.int p_1), .val (.int p_2), .val (.int p_3), .val (.int p_4), .val (.int r2), .val (.int r4), .val (.int r6), .val (.int r8), .val (.ref b9), .val (.int (1 : Int32)), .val (.int v34), .unset, .unset, .unset] [(.int (1 : Int32))])
  refine own_go (fun _ k => XS.istore X36.here hx rfl (hb hby at_91) rfl (l' := #[.val (.int p_1), .val (.int p_2), .val (.int p_3), .val (.int p_4), .val (.int r2), .val (.int r4), .val (.int r6), .val (.int r8), .val (.ref b9), .val (.int (1 : Int32)), .val (.int v34), .unset, .unset, .unset]) rfl k) ?_
  show own_Go _ _ _ _ T36 (mkF m 93 #[.val (.int p_1), .val (.int p_2), .val (.int p_3), .val (.int p_4), .val (.int r2), .val (.int r4), .val (.int r6), .val (.int r8), .val (.ref b9), .val (.int (1 : Int32)), .val (.int v34), .unset, .unset, .unset] [])
  refine own_go (fun _ k => XS.aload X36.here hx rfl (hb hby at_93) rfl rfl k) ?_
  show own_Go _ _ _ _ T36 (mkF m 95 #[.val (.int p_1), .val (.int p_2), .val (.int p_3), .val (.int p_4), .val (.int r2), .val (.int r4), .val (.int r6), .val (.int r8), .val (.ref b9), .val (.int (1 : Int32)), .val (.int v34), .unset, .unset, .unset] [(.ref b9)])
  refine own_go (fun _ k => XS.iload X36.here hx rfl (hb hby at_95) rfl k) ?_
  show own_Go _ _ _ _ T36 (mkF m 97 #[.val (.int p_1), .val (.int p_2), .val (.int p_3), .val (.int p_4), .val (.int r2), .val (.int r4), .val (.int r6), .val (.int r8), .val (.ref b9), .val (.int (1 : Int32)), .val (.int v34), .unset, .unset, .unset] [(.int r4), (.ref b9)])
  obtain ⟨cq38, kq38, q38a, q38b, q38c⟩ := isOf hZ e36 f23
  obtain ⟨_, _, ⟨T38, L38, k38, n38⟩, -, X38, ⟨Lc38, hQ38, l38, y38, z38⟩, st38⟩ := X36.virtualBack hx (y := (⟨"com/example/orderly_storefront/orderlystorefront/catalog/CsvReader$Lines", "count", "(I)V"⟩ : MethodName)) (z := (⟨"com/example/orderly_storefront/orderlystorefront/catalog/CsvReader$Lines", "count", "(I)V"⟩ : MethodName)) hown (mvT hZ (hw _ (List.mem_of_getElem? (i := 22) rfl))) (mvT hZ (hw _ (List.mem_of_getElem? (i := 23) rfl))) (notFace_of_selects (args := #[]) (mvT hZ (hw _ (List.mem_of_getElem? (i := 25) rfl)))) (mvT hZ (hw _ (List.mem_of_getElem? (i := 25) rfl))) (mvT hZ (hw _ (List.mem_of_getElem? (i := 24) rfl))) (by decide) (backOf (W := 0) (own_rm5 l Z a0 hw [] b9 r4 v26 r2 T21.heap n0 (by omega) f22 f23 f24 (by omega)) hZ (hw _ (List.mem_of_getElem? (i := 26) rfl)) (hw _ (List.mem_of_getElem? (i := 6) rfl)) (by decide) (by decide)) q38a q38c (g := (mkF m 97 #[.val (.int p_1), .val (.int p_2), .val (.int p_3), .val (.int p_4), .val (.int r2), .val (.int r4), .val (.int r6), .val (.int r8), .val (.ref b9), .val (.int (1 : Int32)), .val (.int v34), .unset, .unset, .unset] [(.int r4), (.ref b9)])) rfl (by rw [hml]; rfl) (Steps.refl _) (argsL := [(.int r4)]) (rest := []) (lenOf own_pd3 rfl) rfl (by show 2 * 0 + _ ≤ _; exact Nat.le_of_eq rfl) (hb hby at_97) (fun _ _ => ⟨rfl, e36, (by show k36 + _ ≤ _; rw [y36]; decide), (by show n36 + _ ≤ _; rw [z36]; decide)⟩)
  dsimp only [Pt.U, Pt.locs, Pt.cells, Pt.slots] at X38 l38 y38 z38 st38 hQ38
  have y38 : k38 = 1 := own_addeq y38 (congrArg (fun q => q) y36) rfl
  have z38 : n38 = 2 := own_addeq z38 (congrArg (fun q => q) z36) rfl
  obtain ⟨rfl, N38q, K38q, f39, f40, f41⟩ := hQ38
  have N38 : Fr n0 L38 := by rw [l38]; exact Fr.app N36 N38q
  have z42 := K38q.1
  obtain ⟨v43, hdv43⟩ : ∃ z : Int32, z = (own_rm5_current r4 v26 r2) := ⟨_, rfl⟩
  rw [← hdv43] at f39
  have z44 := own_lt f39.lt
  have z45 := own_lt f40.lt
  have z46 := own_lt f41.lt
  refine own_go (fun _ k => st38.trans k) ?_
  show own_Go _ _ _ _ T38 (mkF m 100 #[.val (.int p_1), .val (.int p_2), .val (.int p_3), .val (.int p_4), .val (.int r2), .val (.int r4), .val (.int r6), .val (.int r8), .val (.ref b9), .val (.int (1 : Int32)), .val (.int v34), .unset, .unset, .unset] [])
  refine own_go (fun _ k => XS.iload X38.here hx rfl (hb hby at_100) rfl k) ?_
  show own_Go _ _ _ _ T38 (mkF m 102 #[.val (.int p_1), .val (.int p_2), .val (.int p_3), .val (.int p_4), .val (.int r2), .val (.int r4), .val (.int r6), .val (.int r8), .val (.ref b9), .val (.int (1 : Int32)), .val (.int v34), .unset, .unset, .unset] [(.int v34)])
  refine own_go (fun _ k => XS.iload X38.here hx rfl (hb hby at_102) rfl k) ?_
  show own_Go _ _ _ _ T38 (mkF m 104 #[.val (.int p_1), .val (.int p_2), .val (.int p_3), .val (.int p_4), .val (.int r2), .val (.int r4), .val (.int r6), .val (.int r8), .val (.ref b9), .val (.int (1 : Int32)), .val (.int v34), .unset, .unset, .unset] [(.int r4), (.int v34)])
  obtain ⟨_, _, ⟨T47, L47, k47, n47⟩, -, X47, ⟨Lc47, hQ47, l47, y47, z47⟩, st47⟩ := Jvm.LawKit.callS X38 hx (y := (⟨"com/example/orderly_storefront/orderlystorefront/catalog/LinesCountPinLaw", "cr", "(I)I"⟩ : MethodName)) hown (mvT hZ (hw _ (List.mem_of_getElem? (i := 27) rfl))) (mvT hZ (hw _ (List.mem_of_getElem? (i := 28) rfl))) (mvT hZ (hw _ (List.mem_of_getElem? (i := 2) rfl))) (mvT hZ (hw _ (List.mem_of_getElem? (i := 29) rfl))) (by decide) (backOf (W := 1) (own_rm6 l Z a0 hw [] r4  T38.heap n0 (by omega) ) hZ (hw _ (List.mem_of_getElem? (i := 29) rfl)) (hw _ (List.mem_of_getElem? (i := 2) rfl)) (by decide) (by decide)) (g := (mkF m 104 #[.val (.int p_1), .val (.int p_2), .val (.int p_3), .val (.int p_4), .val (.int r2), .val (.int r4), .val (.int r6), .val (.int r8), .val (.ref b9), .val (.int (1 : Int32)), .val (.int v34), .unset, .unset, .unset] [(.int r4), (.int v34)])) rfl (by rw [hml]; rfl) (argsL := [(.int r4)]) (rest := [(.int v34)]) (lenOf own_pd0 rfl) rfl (by show 2 * 0 + _ ≤ _; exact Nat.le_of_eq rfl) (hb hby at_104) (fun _ _ => ⟨rfl, rfl, (by show k38 + _ ≤ _; rw [y38]; decide), (by show n38 + _ ≤ _; rw [z38]; decide)⟩)
  dsimp only [Pt.U, Pt.locs, Pt.cells, Pt.slots] at X47 l47 y47 z47 st47 hQ47
  have y47 : k47 = 1 := own_addeq y47 (congrArg (fun q => q) y38) rfl
  have z47 : n47 = 2 := own_addeq z47 (congrArg (fun q => q) z38) rfl
  obtain ⟨r48, rfl, N47q, hr_r48, e47⟩ := hQ47
  have N47 : Fr n0 L47 := by rw [l47]; exact Fr.app N38 N47q
  refine own_go (fun _ k => st47 _ k) ?_
  show own_Go _ _ _ _ T47 (mkF m 107 #[.val (.int p_1), .val (.int p_2), .val (.int p_3), .val (.int p_4), .val (.int r2), .val (.int r4), .val (.int r6), .val (.int r8), .val (.ref b9), .val (.int (1 : Int32)), .val (.int v34), .unset, .unset, .unset] [(.int r48), (.int v34)])
  refine own_go (fun _ k => XS.iadd X47.here hx rfl (hb hby at_107) rfl k) ?_
  show own_Go _ _ _ _ T47 (mkF m 108 #[.val (.int p_1), .val (.int p_2), .val (.int p_3), .val (.int p_4), .val (.int r2), .val (.int r4), .val (.int r6), .val (.int r8), .val (.ref b9), .val (.int (1 : Int32)), .val (.int v34), .unset, .unset, .unset] [(.int (v34 + r48))])
  refine own_go (fun _ k => XS.iload X47.here hx rfl (hb hby at_108) rfl k) ?_
  show own_Go _ _ _ _ T47 (mkF m 110 #[.val (.int p_1), .val (.int p_2), .val (.int p_3), .val (.int p_4), .val (.int r2), .val (.int r4), .val (.int r6), .val (.int r8), .val (.ref b9), .val (.int (1 : Int32)), .val (.int v34), .unset, .unset, .unset] [(.int r4), (.int (v34 + r48))])
  obtain ⟨_, _, ⟨T49, L49, k49, n49⟩, -, X49, ⟨Lc49, hQ49, l49, y49, z49⟩, st49⟩ := Jvm.LawKit.callS X47 hx (y := (⟨"com/example/orderly_storefront/orderlystorefront/catalog/LinesCountPinLaw", "lf", "(I)I"⟩ : MethodName)) hown (mvT hZ (hw _ (List.mem_of_getElem? (i := 30) rfl))) (mvT hZ (hw _ (List.mem_of_getElem? (i := 31) rfl))) (mvT hZ (hw _ (List.mem_of_getElem? (i := 2) rfl))) (mvT hZ (hw _ (List.mem_of_getElem? (i := 32) rfl))) (by decide) (backOf (W := 1) (own_rm7 l Z a0 hw [] r4  T38.heap n0 (by omega) ) hZ (hw _ (List.mem_of_getElem? (i := 32) rfl)) (hw _ (List.mem_of_getElem? (i := 2) rfl)) (by decide) (by decide)) (g := (mkF m 110 #[.val (.int p_1), .val (.int p_2), .val (.int p_3), .val (.int p_4), .val (.int r2), .val (.int r4), .val (.int r6), .val (.int r8), .val (.ref b9), .val (.int (1 : Int32)), .val (.int v34), .unset, .unset, .unset] [(.int r4), (.int (v34 + r48))])) rfl (by rw [hml]; rfl) (argsL := [(.int r4)]) (rest := [(.int (v34 + r48))]) (lenOf own_pd0 rfl) rfl (by show 2 * 0 + _ ≤ _; exact Nat.le_of_eq rfl) (hb hby at_110) (fun _ _ => ⟨rfl, e47, (by show k47 + _ ≤ _; rw [y47]; decide), (by show n47 + _ ≤ _; rw [z47]; decide)⟩)
  dsimp only [Pt.U, Pt.locs, Pt.cells, Pt.slots] at X49 l49 y49 z49 st49 hQ49
  have y49 : k49 = 1 := own_addeq y49 (congrArg (fun q => q) y47) rfl
  have z49 : n49 = 2 := own_addeq z49 (congrArg (fun q => q) z47) rfl
  obtain ⟨r50, rfl, N49q, hr_r50, e49⟩ := hQ49
  have N49 : Fr n0 L49 := by rw [l49]; exact Fr.app N47 N49q
  refine own_go (fun _ k => st49 _ k) ?_
  show own_Go _ _ _ _ T49 (mkF m 113 #[.val (.int p_1), .val (.int p_2), .val (.int p_3), .val (.int p_4), .val (.int r2), .val (.int r4), .val (.int r6), .val (.int r8), .val (.ref b9), .val (.int (1 : Int32)), .val (.int v34), .unset, .unset, .unset] [(.int r50), (.int (v34 + r48))])
  refine own_go (fun _ k => XS.iadd X49.here hx rfl (hb hby at_113) rfl k) ?_
  show own_Go _ _ _ _ T49 (mkF m 114 #[.val (.int p_1), .val (.int p_2), .val (.int p_3), .val (.int p_4), .val (.int r2), .val (.int r4), .val (.int r6), .val (.int r8), .val (.ref b9), .val (.int (1 : Int32)), .val (.int v34), .unset, .unset, .unset] [(.int ((v34 + r48) + r50))])
  refine own_go (fun _ k => XS.iload X49.here hx rfl (hb hby at_114) rfl k) ?_
  show own_Go _ _ _ _ T49 (mkF m 116 #[.val (.int p_1), .val (.int p_2), .val (.int p_3), .val (.int p_4), .val (.int r2), .val (.int r4), .val (.int r6), .val (.int r8), .val (.ref b9), .val (.int (1 : Int32)), .val (.int v34), .unset, .unset, .unset] [(.int r2), (.int ((v34 + r48) + r50))])
  refine own_go (fun _ k => XS.iload X49.here hx rfl (hb hby at_116) rfl k) ?_
  show own_Go _ _ _ _ T49 (mkF m 118 #[.val (.int p_1), .val (.int p_2), .val (.int p_3), .val (.int p_4), .val (.int r2), .val (.int r4), .val (.int r6), .val (.int r8), .val (.ref b9), .val (.int (1 : Int32)), .val (.int v34), .unset, .unset, .unset] [(.int r4), (.int r2), (.int ((v34 + r48) + r50))])
  obtain ⟨_, _, ⟨T51, L51, k51, n51⟩, -, X51, ⟨Lc51, hQ51, l51, y51, z51⟩, st51⟩ := Jvm.LawKit.callS X49 hx (y := (⟨"com/example/orderly_storefront/orderlystorefront/catalog/LinesCountPinLaw", "pair", "(II)I"⟩ : MethodName)) hown (mvT hZ (hw _ (List.mem_of_getElem? (i := 33) rfl))) (mvT hZ (hw _ (List.mem_of_getElem? (i := 34) rfl))) (mvT hZ (hw _ (List.mem_of_getElem? (i := 2) rfl))) (mvT hZ (hw _ (List.mem_of_getElem? (i := 35) rfl))) (by decide) (backOf (W := 1) (own_rm8 l Z a0 hw [] r2 r4  T38.heap n0 (by omega) ) hZ (hw _ (List.mem_of_getElem? (i := 35) rfl)) (hw _ (List.mem_of_getElem? (i := 2) rfl)) (by decide) (by decide)) (g := (mkF m 118 #[.val (.int p_1), .val (.int p_2), .val (.int p_3), .val (.int p_4), .val (.int r2), .val (.int r4), .val (.int r6), .val (.int r8), .val (.ref b9), .val (.int (1 : Int32)), .val (.int v34), .unset, .unset, .unset] [(.int r4), (.int r2), (.int ((v34 + r48) + r50))])) rfl (by rw [hml]; rfl) (argsL := [(.int r2), (.int r4)]) (rest := [(.int ((v34 + r48) + r50))]) (lenOf own_pd4 rfl) rfl (by show 2 * 0 + _ ≤ _; exact Nat.le_of_eq rfl) (hb hby at_118) (fun _ _ => ⟨rfl, e49, (by show k49 + _ ≤ _; rw [y49]; decide), (by show n49 + _ ≤ _; rw [z49]; decide)⟩)
  dsimp only [Pt.U, Pt.locs, Pt.cells, Pt.slots] at X51 l51 y51 z51 st51 hQ51
  have y51 : k51 = 1 := own_addeq y51 (congrArg (fun q => q) y49) rfl
  have z51 : n51 = 2 := own_addeq z51 (congrArg (fun q => q) z49) rfl
  obtain ⟨r52, rfl, N51q, hr_r52, e51⟩ := hQ51
  have N51 : Fr n0 L51 := by rw [l51]; exact Fr.app N49 N51q
  refine own_go (fun _ k => st51 _ k) ?_
  show own_Go _ _ _ _ T51 (mkF m 121 #[.val (.int p_1), .val (.int p_2), .val (.int p_3), .val (.int p_4), .val (.int r2), .val (.int r4), .val (.int r6), .val (.int r8), .val (.ref b9), .val (.int (1 : Int32)), .val (.int v34), .unset, .unset, .unset] [(.int r52), (.int ((v34 + r48) + r50))])
  refine own_go (fun _ k => XS.isub X51.here hx rfl (hb hby at_121) rfl k) ?_
  show own_Go _ _ _ _ T51 (mkF m 122 #[.val (.int p_1), .val (.int p_2), .val (.int p_3), .val (.int p_4), .val (.int r2), .val (.int r4), .val (.int r6), .val (.int r8), .val (.ref b9), .val (.int (1 : Int32)), .val (.int v34), .unset, .unset, .unset] [(.int (((v34 + r48) + r50) - r52))])
  refine own_go (fun _ k => XS.istore X51.here hx rfl (hb hby at_122) rfl (l' := #[.val (.int p_1), .val (.int p_2), .val (.int p_3), .val (.int p_4), .val (.int r2), .val (.int r4), .val (.int r6), .val (.int r8), .val (.ref b9), .val (.int (1 : Int32)), .val (.int v34), .val (.int (((v34 + r48) + r50) - r52)), .unset, .unset]) rfl k) ?_
  show own_Go _ _ _ _ T51 (mkF m 124 #[.val (.int p_1), .val (.int p_2), .val (.int p_3), .val (.int p_4), .val (.int r2), .val (.int r4), .val (.int r6), .val (.int r8), .val (.ref b9), .val (.int (1 : Int32)), .val (.int v34), .val (.int (((v34 + r48) + r50) - r52)), .unset, .unset] [])
  generalize hdv53 : (((v34 + r48) + r50) - r52) = v53
  show own_Go _ _ _ _ T51 (mkF m 124 #[.val (.int p_1), .val (.int p_2), .val (.int p_3), .val (.int p_4), .val (.int r2), .val (.int r4), .val (.int r6), .val (.int r8), .val (.ref b9), .val (.int (1 : Int32)), .val (.int v34), .val (.int v53), .unset, .unset] [])
  refine own_go (fun _ k => XS.iload X51.here hx rfl (hb hby at_124) rfl k) ?_
  show own_Go _ _ _ _ T51 (mkF m 126 #[.val (.int p_1), .val (.int p_2), .val (.int p_3), .val (.int p_4), .val (.int r2), .val (.int r4), .val (.int r6), .val (.int r8), .val (.ref b9), .val (.int (1 : Int32)), .val (.int v34), .val (.int v53), .unset, .unset] [(.int (1 : Int32))])
  have hc54 : ¬ ((1 : Int32) = 0) := by decide
  refine own_go (fun _ k => XS.ifNo X51.here hx rfl (hb hby at_126) rfl (Jvm.Free.XT.i0_eq_f hc54) k) ?_
  show own_Go _ _ _ _ T51 (mkF m 129 #[.val (.int p_1), .val (.int p_2), .val (.int p_3), .val (.int p_4), .val (.int r2), .val (.int r4), .val (.int r6), .val (.int r8), .val (.ref b9), .val (.int (1 : Int32)), .val (.int v34), .val (.int v53), .unset, .unset] [])
  refine own_go (fun _ k => XS.aload X51.here hx rfl (hb hby at_129) rfl rfl k) ?_
  show own_Go _ _ _ _ T51 (mkF m 131 #[.val (.int p_1), .val (.int p_2), .val (.int p_3), .val (.int p_4), .val (.int r2), .val (.int r4), .val (.int r6), .val (.int r8), .val (.ref b9), .val (.int (1 : Int32)), .val (.int v34), .val (.int v53), .unset, .unset] [(.ref b9)])
  obtain ⟨cq55, kq55, q55a, q55b, q55c⟩ := isOf hZ e51 f40
  obtain ⟨_, _, ⟨T55, L55, k55, n55⟩, -, X55, ⟨Lc55, hQ55, l55, y55, z55⟩, st55⟩ := X51.virtualBack hx (y := (⟨"com/example/orderly_storefront/orderlystorefront/catalog/CsvReader$Lines", "current", "()I"⟩ : MethodName)) (z := (⟨"com/example/orderly_storefront/orderlystorefront/catalog/CsvReader$Lines", "current", "()I"⟩ : MethodName)) hown (mvT hZ (hw _ (List.mem_of_getElem? (i := 17) rfl))) (mvT hZ (hw _ (List.mem_of_getElem? (i := 18) rfl))) (notFace_of_selects (args := #[]) (mvT hZ (hw _ (List.mem_of_getElem? (i := 20) rfl)))) (mvT hZ (hw _ (List.mem_of_getElem? (i := 20) rfl))) (mvT hZ (hw _ (List.mem_of_getElem? (i := 19) rfl))) (by decide) (backOf (W := 0) (own_rm4 l Z a0 hw [] b9 v43 T38.heap n0 (by omega) f39) hZ (hw _ (List.mem_of_getElem? (i := 21) rfl)) (hw _ (List.mem_of_getElem? (i := 6) rfl)) (by decide) (by decide)) q55a q55c (g := (mkF m 131 #[.val (.int p_1), .val (.int p_2), .val (.int p_3), .val (.int p_4), .val (.int r2), .val (.int r4), .val (.int r6), .val (.int r8), .val (.ref b9), .val (.int (1 : Int32)), .val (.int v34), .val (.int v53), .unset, .unset] [(.ref b9)])) rfl (by rw [hml]; rfl) (Steps.refl _) (argsL := []) (rest := []) (lenOf own_pd2 rfl) rfl (by show 2 * 0 + _ ≤ _; exact Nat.le_of_eq rfl) (hb hby at_131) (fun _ _ => ⟨rfl, e51, (by show k51 + _ ≤ _; rw [y51]; decide), (by show n51 + _ ≤ _; rw [z51]; decide)⟩)
  dsimp only [Pt.U, Pt.locs, Pt.cells, Pt.slots] at X55 l55 y55 z55 st55 hQ55
  have y55 : k55 = 1 := own_addeq y55 (congrArg (fun q => q) y51) rfl
  have z55 : n55 = 2 := own_addeq z55 (congrArg (fun q => q) z51) rfl
  obtain ⟨rfl, N55q, e55⟩ := hQ55
  have N55 : Fr n0 L55 := by rw [l55]; exact Fr.app N51 N55q
  refine own_go (fun _ k => st55.trans k) ?_
  show own_Go _ _ _ _ T55 (mkF m 134 #[.val (.int p_1), .val (.int p_2), .val (.int p_3), .val (.int p_4), .val (.int r2), .val (.int r4), .val (.int r6), .val (.int r8), .val (.ref b9), .val (.int (1 : Int32)), .val (.int v34), .val (.int v53), .unset, .unset] [(.int v43)])
  refine own_go (fun _ k => XS.iload X55.here hx rfl (hb hby at_134) rfl k) ?_
  show own_Go _ _ _ _ T55 (mkF m 136 #[.val (.int p_1), .val (.int p_2), .val (.int p_3), .val (.int p_4), .val (.int r2), .val (.int r4), .val (.int r6), .val (.int r8), .val (.ref b9), .val (.int (1 : Int32)), .val (.int v34), .val (.int v53), .unset, .unset] [(.int v53), (.int v43)])
  have hc56 : v43 = v53 := own_t0_1 r2 r4 v26 r31 r33 v34 v43 r48 r50 r52 v53 hdv26 hr_r31 hr_r33 hdv34 hc37 hdv43 hr_r48 hr_r50 hr_r52 hdv53
  refine own_go (fun _ k => XS.icmpNo X55.here hx rfl (hb hby at_136) rfl (Jvm.Free.XT.ii_ne_f hc56) k) ?_
  show own_Go _ _ _ _ T55 (mkF m 139 #[.val (.int p_1), .val (.int p_2), .val (.int p_3), .val (.int p_4), .val (.int r2), .val (.int r4), .val (.int r6), .val (.int r8), .val (.ref b9), .val (.int (1 : Int32)), .val (.int v34), .val (.int v53), .unset, .unset] [])
  refine own_go (fun _ k => XS.iconst X55.here hx rfl (hb hby at_139) k) ?_
  show own_Go _ _ _ _ T55 (mkF m 140 #[.val (.int p_1), .val (.int p_2), .val (.int p_3), .val (.int p_4), .val (.int r2), .val (.int r4), .val (.int r6), .val (.int r8), .val (.ref b9), .val (.int (1 : Int32)), .val (.int v34), .val (.int v53), .unset, .unset] [(.int (1 : Int32))])
  refine own_go (fun _ k => XS.goto X55.here hx rfl (pc0 := 140) (pc' := 144) rfl (hb hby at_140) (by decide) (by decide) k) ?_
  show own_Go _ _ _ _ T55 (mkF m 144 #[.val (.int p_1), .val (.int p_2), .val (.int p_3), .val (.int p_4), .val (.int r2), .val (.int r4), .val (.int r6), .val (.int r8), .val (.ref b9), .val (.int (1 : Int32)), .val (.int v34), .val (.int v53), .unset, .unset] [(.int (1 : Int32))])
  refine own_go (fun _ k => XS.istore X55.here hx rfl (hb hby at_144) rfl (l' := #[.val (.int p_1), .val (.int p_2), .val (.int p_3), .val (.int p_4), .val (.int r2), .val (.int r4), .val (.int r6), .val (.int r8), .val (.ref b9), .val (.int (1 : Int32)), .val (.int v34), .val (.int v53), .unset, .unset]) rfl k) ?_
  show own_Go _ _ _ _ T55 (mkF m 146 #[.val (.int p_1), .val (.int p_2), .val (.int p_3), .val (.int p_4), .val (.int r2), .val (.int r4), .val (.int r6), .val (.int r8), .val (.ref b9), .val (.int (1 : Int32)), .val (.int v34), .val (.int v53), .unset, .unset] [])
  refine own_go (fun _ k => XS.aload X55.here hx rfl (hb hby at_146) rfl rfl k) ?_
  show own_Go _ _ _ _ T55 (mkF m 148 #[.val (.int p_1), .val (.int p_2), .val (.int p_3), .val (.int p_4), .val (.int r2), .val (.int r4), .val (.int r6), .val (.int r8), .val (.ref b9), .val (.int (1 : Int32)), .val (.int v34), .val (.int v53), .unset, .unset] [(.ref b9)])
  refine own_go (fun _ k => XS.iload X55.here hx rfl (hb hby at_148) rfl k) ?_
  show own_Go _ _ _ _ T55 (mkF m 150 #[.val (.int p_1), .val (.int p_2), .val (.int p_3), .val (.int p_4), .val (.int r2), .val (.int r4), .val (.int r6), .val (.int r8), .val (.ref b9), .val (.int (1 : Int32)), .val (.int v34), .val (.int v53), .unset, .unset] [(.int r6), (.ref b9)])
  obtain ⟨cq57, kq57, q57a, q57b, q57c⟩ := isOf hZ e55 f40
  obtain ⟨_, _, ⟨T57, L57, k57, n57⟩, -, X57, ⟨Lc57, hQ57, l57, y57, z57⟩, st57⟩ := X55.virtualBack hx (y := (⟨"com/example/orderly_storefront/orderlystorefront/catalog/CsvReader$Lines", "count", "(I)V"⟩ : MethodName)) (z := (⟨"com/example/orderly_storefront/orderlystorefront/catalog/CsvReader$Lines", "count", "(I)V"⟩ : MethodName)) hown (mvT hZ (hw _ (List.mem_of_getElem? (i := 22) rfl))) (mvT hZ (hw _ (List.mem_of_getElem? (i := 23) rfl))) (notFace_of_selects (args := #[]) (mvT hZ (hw _ (List.mem_of_getElem? (i := 25) rfl)))) (mvT hZ (hw _ (List.mem_of_getElem? (i := 25) rfl))) (mvT hZ (hw _ (List.mem_of_getElem? (i := 24) rfl))) (by decide) (backOf (W := 0) (own_rm5 l Z a0 hw [] b9 r6 v43 r4 T38.heap n0 (by omega) f39 f40 f41 (by omega)) hZ (hw _ (List.mem_of_getElem? (i := 26) rfl)) (hw _ (List.mem_of_getElem? (i := 6) rfl)) (by decide) (by decide)) q57a q57c (g := (mkF m 150 #[.val (.int p_1), .val (.int p_2), .val (.int p_3), .val (.int p_4), .val (.int r2), .val (.int r4), .val (.int r6), .val (.int r8), .val (.ref b9), .val (.int (1 : Int32)), .val (.int v34), .val (.int v53), .unset, .unset] [(.int r6), (.ref b9)])) rfl (by rw [hml]; rfl) (Steps.refl _) (argsL := [(.int r6)]) (rest := []) (lenOf own_pd3 rfl) rfl (by show 2 * 0 + _ ≤ _; exact Nat.le_of_eq rfl) (hb hby at_150) (fun _ _ => ⟨rfl, e55, (by show k55 + _ ≤ _; rw [y55]; decide), (by show n55 + _ ≤ _; rw [z55]; decide)⟩)
  dsimp only [Pt.U, Pt.locs, Pt.cells, Pt.slots] at X57 l57 y57 z57 st57 hQ57
  have y57 : k57 = 1 := own_addeq y57 (congrArg (fun q => q) y55) rfl
  have z57 : n57 = 2 := own_addeq z57 (congrArg (fun q => q) z55) rfl
  obtain ⟨rfl, N57q, K57q, f58, f59, f60⟩ := hQ57
  have N57 : Fr n0 L57 := by rw [l57]; exact Fr.app N55 N57q
  have z61 := K57q.1
  obtain ⟨v62, hdv62⟩ : ∃ z : Int32, z = (own_rm5_current r6 v43 r4) := ⟨_, rfl⟩
  rw [← hdv62] at f58
  have z63 := own_lt f58.lt
  have z64 := own_lt f59.lt
  have z65 := own_lt f60.lt
  refine own_go (fun _ k => st57.trans k) ?_
  show own_Go _ _ _ _ T57 (mkF m 153 #[.val (.int p_1), .val (.int p_2), .val (.int p_3), .val (.int p_4), .val (.int r2), .val (.int r4), .val (.int r6), .val (.int r8), .val (.ref b9), .val (.int (1 : Int32)), .val (.int v34), .val (.int v53), .unset, .unset] [])
  refine own_go (fun _ k => XS.iload X57.here hx rfl (hb hby at_153) rfl k) ?_
  show own_Go _ _ _ _ T57 (mkF m 155 #[.val (.int p_1), .val (.int p_2), .val (.int p_3), .val (.int p_4), .val (.int r2), .val (.int r4), .val (.int r6), .val (.int r8), .val (.ref b9), .val (.int (1 : Int32)), .val (.int v34), .val (.int v53), .unset, .unset] [(.int v53)])
  refine own_go (fun _ k => XS.iload X57.here hx rfl (hb hby at_155) rfl k) ?_
  show own_Go _ _ _ _ T57 (mkF m 157 #[.val (.int p_1), .val (.int p_2), .val (.int p_3), .val (.int p_4), .val (.int r2), .val (.int r4), .val (.int r6), .val (.int r8), .val (.ref b9), .val (.int (1 : Int32)), .val (.int v34), .val (.int v53), .unset, .unset] [(.int r6), (.int v53)])
  obtain ⟨_, _, ⟨T66, L66, k66, n66⟩, -, X66, ⟨Lc66, hQ66, l66, y66, z66⟩, st66⟩ := Jvm.LawKit.callS X57 hx (y := (⟨"com/example/orderly_storefront/orderlystorefront/catalog/LinesCountPinLaw", "cr", "(I)I"⟩ : MethodName)) hown (mvT hZ (hw _ (List.mem_of_getElem? (i := 27) rfl))) (mvT hZ (hw _ (List.mem_of_getElem? (i := 28) rfl))) (mvT hZ (hw _ (List.mem_of_getElem? (i := 2) rfl))) (mvT hZ (hw _ (List.mem_of_getElem? (i := 29) rfl))) (by decide) (backOf (W := 1) (own_rm6 l Z a0 hw [] r6  T57.heap n0 (by omega) ) hZ (hw _ (List.mem_of_getElem? (i := 29) rfl)) (hw _ (List.mem_of_getElem? (i := 2) rfl)) (by decide) (by decide)) (g := (mkF m 157 #[.val (.int p_1), .val (.int p_2), .val (.int p_3), .val (.int p_4), .val (.int r2), .val (.int r4), .val (.int r6), .val (.int r8), .val (.ref b9), .val (.int (1 : Int32)), .val (.int v34), .val (.int v53), .unset, .unset] [(.int r6), (.int v53)])) rfl (by rw [hml]; rfl) (argsL := [(.int r6)]) (rest := [(.int v53)]) (lenOf own_pd0 rfl) rfl (by show 2 * 0 + _ ≤ _; exact Nat.le_of_eq rfl) (hb hby at_157) (fun _ _ => ⟨rfl, rfl, (by show k57 + _ ≤ _; rw [y57]; decide), (by show n57 + _ ≤ _; rw [z57]; decide)⟩)
  dsimp only [Pt.U, Pt.locs, Pt.cells, Pt.slots] at X66 l66 y66 z66 st66 hQ66
  have y66 : k66 = 1 := own_addeq y66 (congrArg (fun q => q) y57) rfl
  have z66 : n66 = 2 := own_addeq z66 (congrArg (fun q => q) z57) rfl
  obtain ⟨r67, rfl, N66q, hr_r67, e66⟩ := hQ66
  have N66 : Fr n0 L66 := by rw [l66]; exact Fr.app N57 N66q
  refine own_go (fun _ k => st66 _ k) ?_
  show own_Go _ _ _ _ T66 (mkF m 160 #[.val (.int p_1), .val (.int p_2), .val (.int p_3), .val (.int p_4), .val (.int r2), .val (.int r4), .val (.int r6), .val (.int r8), .val (.ref b9), .val (.int (1 : Int32)), .val (.int v34), .val (.int v53), .unset, .unset] [(.int r67), (.int v53)])
  refine own_go (fun _ k => XS.iadd X66.here hx rfl (hb hby at_160) rfl k) ?_
  show own_Go _ _ _ _ T66 (mkF m 161 #[.val (.int p_1), .val (.int p_2), .val (.int p_3), .val (.int p_4), .val (.int r2), .val (.int r4), .val (.int r6), .val (.int r8), .val (.ref b9), .val (.int (1 : Int32)), .val (.int v34), .val (.int v53), .unset, .unset] [(.int (v53 + r67))])
  refine own_go (fun _ k => XS.iload X66.here hx rfl (hb hby at_161) rfl k) ?_
  show own_Go _ _ _ _ T66 (mkF m 163 #[.val (.int p_1), .val (.int p_2), .val (.int p_3), .val (.int p_4), .val (.int r2), .val (.int r4), .val (.int r6), .val (.int r8), .val (.ref b9), .val (.int (1 : Int32)), .val (.int v34), .val (.int v53), .unset, .unset] [(.int r6), (.int (v53 + r67))])
  obtain ⟨_, _, ⟨T68, L68, k68, n68⟩, -, X68, ⟨Lc68, hQ68, l68, y68, z68⟩, st68⟩ := Jvm.LawKit.callS X66 hx (y := (⟨"com/example/orderly_storefront/orderlystorefront/catalog/LinesCountPinLaw", "lf", "(I)I"⟩ : MethodName)) hown (mvT hZ (hw _ (List.mem_of_getElem? (i := 30) rfl))) (mvT hZ (hw _ (List.mem_of_getElem? (i := 31) rfl))) (mvT hZ (hw _ (List.mem_of_getElem? (i := 2) rfl))) (mvT hZ (hw _ (List.mem_of_getElem? (i := 32) rfl))) (by decide) (backOf (W := 1) (own_rm7 l Z a0 hw [] r6  T57.heap n0 (by omega) ) hZ (hw _ (List.mem_of_getElem? (i := 32) rfl)) (hw _ (List.mem_of_getElem? (i := 2) rfl)) (by decide) (by decide)) (g := (mkF m 163 #[.val (.int p_1), .val (.int p_2), .val (.int p_3), .val (.int p_4), .val (.int r2), .val (.int r4), .val (.int r6), .val (.int r8), .val (.ref b9), .val (.int (1 : Int32)), .val (.int v34), .val (.int v53), .unset, .unset] [(.int r6), (.int (v53 + r67))])) rfl (by rw [hml]; rfl) (argsL := [(.int r6)]) (rest := [(.int (v53 + r67))]) (lenOf own_pd0 rfl) rfl (by show 2 * 0 + _ ≤ _; exact Nat.le_of_eq rfl) (hb hby at_163) (fun _ _ => ⟨rfl, e66, (by show k66 + _ ≤ _; rw [y66]; decide), (by show n66 + _ ≤ _; rw [z66]; decide)⟩)
  dsimp only [Pt.U, Pt.locs, Pt.cells, Pt.slots] at X68 l68 y68 z68 st68 hQ68
  have y68 : k68 = 1 := own_addeq y68 (congrArg (fun q => q) y66) rfl
  have z68 : n68 = 2 := own_addeq z68 (congrArg (fun q => q) z66) rfl
  obtain ⟨r69, rfl, N68q, hr_r69, e68⟩ := hQ68
  have N68 : Fr n0 L68 := by rw [l68]; exact Fr.app N66 N68q
  refine own_go (fun _ k => st68 _ k) ?_
  show own_Go _ _ _ _ T68 (mkF m 166 #[.val (.int p_1), .val (.int p_2), .val (.int p_3), .val (.int p_4), .val (.int r2), .val (.int r4), .val (.int r6), .val (.int r8), .val (.ref b9), .val (.int (1 : Int32)), .val (.int v34), .val (.int v53), .unset, .unset] [(.int r69), (.int (v53 + r67))])
  refine own_go (fun _ k => XS.iadd X68.here hx rfl (hb hby at_166) rfl k) ?_
  show own_Go _ _ _ _ T68 (mkF m 167 #[.val (.int p_1), .val (.int p_2), .val (.int p_3), .val (.int p_4), .val (.int r2), .val (.int r4), .val (.int r6), .val (.int r8), .val (.ref b9), .val (.int (1 : Int32)), .val (.int v34), .val (.int v53), .unset, .unset] [(.int ((v53 + r67) + r69))])
  refine own_go (fun _ k => XS.iload X68.here hx rfl (hb hby at_167) rfl k) ?_
  show own_Go _ _ _ _ T68 (mkF m 169 #[.val (.int p_1), .val (.int p_2), .val (.int p_3), .val (.int p_4), .val (.int r2), .val (.int r4), .val (.int r6), .val (.int r8), .val (.ref b9), .val (.int (1 : Int32)), .val (.int v34), .val (.int v53), .unset, .unset] [(.int r4), (.int ((v53 + r67) + r69))])
  refine own_go (fun _ k => XS.iload X68.here hx rfl (hb hby at_169) rfl k) ?_
  show own_Go _ _ _ _ T68 (mkF m 171 #[.val (.int p_1), .val (.int p_2), .val (.int p_3), .val (.int p_4), .val (.int r2), .val (.int r4), .val (.int r6), .val (.int r8), .val (.ref b9), .val (.int (1 : Int32)), .val (.int v34), .val (.int v53), .unset, .unset] [(.int r6), (.int r4), (.int ((v53 + r67) + r69))])
  obtain ⟨_, _, ⟨T70, L70, k70, n70⟩, -, X70, ⟨Lc70, hQ70, l70, y70, z70⟩, st70⟩ := Jvm.LawKit.callS X68 hx (y := (⟨"com/example/orderly_storefront/orderlystorefront/catalog/LinesCountPinLaw", "pair", "(II)I"⟩ : MethodName)) hown (mvT hZ (hw _ (List.mem_of_getElem? (i := 33) rfl))) (mvT hZ (hw _ (List.mem_of_getElem? (i := 34) rfl))) (mvT hZ (hw _ (List.mem_of_getElem? (i := 2) rfl))) (mvT hZ (hw _ (List.mem_of_getElem? (i := 35) rfl))) (by decide) (backOf (W := 1) (own_rm8 l Z a0 hw [] r4 r6  T57.heap n0 (by omega) ) hZ (hw _ (List.mem_of_getElem? (i := 35) rfl)) (hw _ (List.mem_of_getElem? (i := 2) rfl)) (by decide) (by decide)) (g := (mkF m 171 #[.val (.int p_1), .val (.int p_2), .val (.int p_3), .val (.int p_4), .val (.int r2), .val (.int r4), .val (.int r6), .val (.int r8), .val (.ref b9), .val (.int (1 : Int32)), .val (.int v34), .val (.int v53), .unset, .unset] [(.int r6), (.int r4), (.int ((v53 + r67) + r69))])) rfl (by rw [hml]; rfl) (argsL := [(.int r4), (.int r6)]) (rest := [(.int ((v53 + r67) + r69))]) (lenOf own_pd4 rfl) rfl (by show 2 * 0 + _ ≤ _; exact Nat.le_of_eq rfl) (hb hby at_171) (fun _ _ => ⟨rfl, e68, (by show k68 + _ ≤ _; rw [y68]; decide), (by show n68 + _ ≤ _; rw [z68]; decide)⟩)
  dsimp only [Pt.U, Pt.locs, Pt.cells, Pt.slots] at X70 l70 y70 z70 st70 hQ70
  have y70 : k70 = 1 := own_addeq y70 (congrArg (fun q => q) y68) rfl
  have z70 : n70 = 2 := own_addeq z70 (congrArg (fun q => q) z68) rfl
  obtain ⟨r71, rfl, N70q, hr_r71, e70⟩ := hQ70
  have N70 : Fr n0 L70 := by rw [l70]; exact Fr.app N68 N70q
  refine own_go (fun _ k => st70 _ k) ?_
  show own_Go _ _ _ _ T70 (mkF m 174 #[.val (.int p_1), .val (.int p_2), .val (.int p_3), .val (.int p_4), .val (.int r2), .val (.int r4), .val (.int r6), .val (.int r8), .val (.ref b9), .val (.int (1 : Int32)), .val (.int v34), .val (.int v53), .unset, .unset] [(.int r71), (.int ((v53 + r67) + r69))])
  refine own_go (fun _ k => XS.isub X70.here hx rfl (hb hby at_174) rfl k) ?_
  show own_Go _ _ _ _ T70 (mkF m 175 #[.val (.int p_1), .val (.int p_2), .val (.int p_3), .val (.int p_4), .val (.int r2), .val (.int r4), .val (.int r6), .val (.int r8), .val (.ref b9), .val (.int (1 : Int32)), .val (.int v34), .val (.int v53), .unset, .unset] [(.int (((v53 + r67) + r69) - r71))])
  refine own_go (fun _ k => XS.istore X70.here hx rfl (hb hby at_175) rfl (l' := #[.val (.int p_1), .val (.int p_2), .val (.int p_3), .val (.int p_4), .val (.int r2), .val (.int r4), .val (.int r6), .val (.int r8), .val (.ref b9), .val (.int (1 : Int32)), .val (.int v34), .val (.int v53), .val (.int (((v53 + r67) + r69) - r71)), .unset]) rfl k) ?_
  show own_Go _ _ _ _ T70 (mkF m 177 #[.val (.int p_1), .val (.int p_2), .val (.int p_3), .val (.int p_4), .val (.int r2), .val (.int r4), .val (.int r6), .val (.int r8), .val (.ref b9), .val (.int (1 : Int32)), .val (.int v34), .val (.int v53), .val (.int (((v53 + r67) + r69) - r71)), .unset] [])
  generalize hdv72 : (((v53 + r67) + r69) - r71) = v72
  show own_Go _ _ _ _ T70 (mkF m 177 #[.val (.int p_1), .val (.int p_2), .val (.int p_3), .val (.int p_4), .val (.int r2), .val (.int r4), .val (.int r6), .val (.int r8), .val (.ref b9), .val (.int (1 : Int32)), .val (.int v34), .val (.int v53), .val (.int v72), .unset] [])
  refine own_go (fun _ k => XS.iload X70.here hx rfl (hb hby at_177) rfl k) ?_
  show own_Go _ _ _ _ T70 (mkF m 179 #[.val (.int p_1), .val (.int p_2), .val (.int p_3), .val (.int p_4), .val (.int r2), .val (.int r4), .val (.int r6), .val (.int r8), .val (.ref b9), .val (.int (1 : Int32)), .val (.int v34), .val (.int v53), .val (.int v72), .unset] [(.int (1 : Int32))])
  have hc73 : ¬ ((1 : Int32) = 0) := by decide
  refine own_go (fun _ k => XS.ifNo X70.here hx rfl (hb hby at_179) rfl (Jvm.Free.XT.i0_eq_f hc73) k) ?_
  show own_Go _ _ _ _ T70 (mkF m 182 #[.val (.int p_1), .val (.int p_2), .val (.int p_3), .val (.int p_4), .val (.int r2), .val (.int r4), .val (.int r6), .val (.int r8), .val (.ref b9), .val (.int (1 : Int32)), .val (.int v34), .val (.int v53), .val (.int v72), .unset] [])
  refine own_go (fun _ k => XS.aload X70.here hx rfl (hb hby at_182) rfl rfl k) ?_
  show own_Go _ _ _ _ T70 (mkF m 184 #[.val (.int p_1), .val (.int p_2), .val (.int p_3), .val (.int p_4), .val (.int r2), .val (.int r4), .val (.int r6), .val (.int r8), .val (.ref b9), .val (.int (1 : Int32)), .val (.int v34), .val (.int v53), .val (.int v72), .unset] [(.ref b9)])
  obtain ⟨cq74, kq74, q74a, q74b, q74c⟩ := isOf hZ e70 f59
  obtain ⟨_, _, ⟨T74, L74, k74, n74⟩, -, X74, ⟨Lc74, hQ74, l74, y74, z74⟩, st74⟩ := X70.virtualBack hx (y := (⟨"com/example/orderly_storefront/orderlystorefront/catalog/CsvReader$Lines", "current", "()I"⟩ : MethodName)) (z := (⟨"com/example/orderly_storefront/orderlystorefront/catalog/CsvReader$Lines", "current", "()I"⟩ : MethodName)) hown (mvT hZ (hw _ (List.mem_of_getElem? (i := 17) rfl))) (mvT hZ (hw _ (List.mem_of_getElem? (i := 18) rfl))) (notFace_of_selects (args := #[]) (mvT hZ (hw _ (List.mem_of_getElem? (i := 20) rfl)))) (mvT hZ (hw _ (List.mem_of_getElem? (i := 20) rfl))) (mvT hZ (hw _ (List.mem_of_getElem? (i := 19) rfl))) (by decide) (backOf (W := 0) (own_rm4 l Z a0 hw [] b9 v62 T57.heap n0 (by omega) f58) hZ (hw _ (List.mem_of_getElem? (i := 21) rfl)) (hw _ (List.mem_of_getElem? (i := 6) rfl)) (by decide) (by decide)) q74a q74c (g := (mkF m 184 #[.val (.int p_1), .val (.int p_2), .val (.int p_3), .val (.int p_4), .val (.int r2), .val (.int r4), .val (.int r6), .val (.int r8), .val (.ref b9), .val (.int (1 : Int32)), .val (.int v34), .val (.int v53), .val (.int v72), .unset] [(.ref b9)])) rfl (by rw [hml]; rfl) (Steps.refl _) (argsL := []) (rest := []) (lenOf own_pd2 rfl) rfl (by show 2 * 0 + _ ≤ _; exact Nat.le_of_eq rfl) (hb hby at_184) (fun _ _ => ⟨rfl, e70, (by show k70 + _ ≤ _; rw [y70]; decide), (by show n70 + _ ≤ _; rw [z70]; decide)⟩)
  dsimp only [Pt.U, Pt.locs, Pt.cells, Pt.slots] at X74 l74 y74 z74 st74 hQ74
  have y74 : k74 = 1 := own_addeq y74 (congrArg (fun q => q) y70) rfl
  have z74 : n74 = 2 := own_addeq z74 (congrArg (fun q => q) z70) rfl
  obtain ⟨rfl, N74q, e74⟩ := hQ74
  have N74 : Fr n0 L74 := by rw [l74]; exact Fr.app N70 N74q
  refine own_go (fun _ k => st74.trans k) ?_
  show own_Go _ _ _ _ T74 (mkF m 187 #[.val (.int p_1), .val (.int p_2), .val (.int p_3), .val (.int p_4), .val (.int r2), .val (.int r4), .val (.int r6), .val (.int r8), .val (.ref b9), .val (.int (1 : Int32)), .val (.int v34), .val (.int v53), .val (.int v72), .unset] [(.int v62)])
  refine own_go (fun _ k => XS.iload X74.here hx rfl (hb hby at_187) rfl k) ?_
  show own_Go _ _ _ _ T74 (mkF m 189 #[.val (.int p_1), .val (.int p_2), .val (.int p_3), .val (.int p_4), .val (.int r2), .val (.int r4), .val (.int r6), .val (.int r8), .val (.ref b9), .val (.int (1 : Int32)), .val (.int v34), .val (.int v53), .val (.int v72), .unset] [(.int v72), (.int v62)])
  have hc75 : v62 = v72 := own_t0_2 r2 r4 r6 v26 r31 r33 v34 v43 r48 r50 r52 v53 v62 r67 r69 r71 v72 hdv26 hr_r31 hr_r33 hdv34 hc37 hdv43 hr_r48 hr_r50 hr_r52 hdv53 hc56 hdv62 hr_r67 hr_r69 hr_r71 hdv72
  refine own_go (fun _ k => XS.icmpNo X74.here hx rfl (hb hby at_189) rfl (Jvm.Free.XT.ii_ne_f hc75) k) ?_
  show own_Go _ _ _ _ T74 (mkF m 192 #[.val (.int p_1), .val (.int p_2), .val (.int p_3), .val (.int p_4), .val (.int r2), .val (.int r4), .val (.int r6), .val (.int r8), .val (.ref b9), .val (.int (1 : Int32)), .val (.int v34), .val (.int v53), .val (.int v72), .unset] [])
  refine own_go (fun _ k => XS.iconst X74.here hx rfl (hb hby at_192) k) ?_
  show own_Go _ _ _ _ T74 (mkF m 193 #[.val (.int p_1), .val (.int p_2), .val (.int p_3), .val (.int p_4), .val (.int r2), .val (.int r4), .val (.int r6), .val (.int r8), .val (.ref b9), .val (.int (1 : Int32)), .val (.int v34), .val (.int v53), .val (.int v72), .unset] [(.int (1 : Int32))])
  refine own_go (fun _ k => XS.goto X74.here hx rfl (pc0 := 193) (pc' := 197) rfl (hb hby at_193) (by decide) (by decide) k) ?_
  show own_Go _ _ _ _ T74 (mkF m 197 #[.val (.int p_1), .val (.int p_2), .val (.int p_3), .val (.int p_4), .val (.int r2), .val (.int r4), .val (.int r6), .val (.int r8), .val (.ref b9), .val (.int (1 : Int32)), .val (.int v34), .val (.int v53), .val (.int v72), .unset] [(.int (1 : Int32))])
  refine own_go (fun _ k => XS.istore X74.here hx rfl (hb hby at_197) rfl (l' := #[.val (.int p_1), .val (.int p_2), .val (.int p_3), .val (.int p_4), .val (.int r2), .val (.int r4), .val (.int r6), .val (.int r8), .val (.ref b9), .val (.int (1 : Int32)), .val (.int v34), .val (.int v53), .val (.int v72), .unset]) rfl k) ?_
  show own_Go _ _ _ _ T74 (mkF m 199 #[.val (.int p_1), .val (.int p_2), .val (.int p_3), .val (.int p_4), .val (.int r2), .val (.int r4), .val (.int r6), .val (.int r8), .val (.ref b9), .val (.int (1 : Int32)), .val (.int v34), .val (.int v53), .val (.int v72), .unset] [])
  refine own_go (fun _ k => XS.aload X74.here hx rfl (hb hby at_199) rfl rfl k) ?_
  show own_Go _ _ _ _ T74 (mkF m 201 #[.val (.int p_1), .val (.int p_2), .val (.int p_3), .val (.int p_4), .val (.int r2), .val (.int r4), .val (.int r6), .val (.int r8), .val (.ref b9), .val (.int (1 : Int32)), .val (.int v34), .val (.int v53), .val (.int v72), .unset] [(.ref b9)])
  refine own_go (fun _ k => XS.iload X74.here hx rfl (hb hby at_201) rfl k) ?_
  show own_Go _ _ _ _ T74 (mkF m 203 #[.val (.int p_1), .val (.int p_2), .val (.int p_3), .val (.int p_4), .val (.int r2), .val (.int r4), .val (.int r6), .val (.int r8), .val (.ref b9), .val (.int (1 : Int32)), .val (.int v34), .val (.int v53), .val (.int v72), .unset] [(.int r8), (.ref b9)])
  obtain ⟨cq76, kq76, q76a, q76b, q76c⟩ := isOf hZ e74 f59
  obtain ⟨_, _, ⟨T76, L76, k76, n76⟩, -, X76, ⟨Lc76, hQ76, l76, y76, z76⟩, st76⟩ := X74.virtualBack hx (y := (⟨"com/example/orderly_storefront/orderlystorefront/catalog/CsvReader$Lines", "count", "(I)V"⟩ : MethodName)) (z := (⟨"com/example/orderly_storefront/orderlystorefront/catalog/CsvReader$Lines", "count", "(I)V"⟩ : MethodName)) hown (mvT hZ (hw _ (List.mem_of_getElem? (i := 22) rfl))) (mvT hZ (hw _ (List.mem_of_getElem? (i := 23) rfl))) (notFace_of_selects (args := #[]) (mvT hZ (hw _ (List.mem_of_getElem? (i := 25) rfl)))) (mvT hZ (hw _ (List.mem_of_getElem? (i := 25) rfl))) (mvT hZ (hw _ (List.mem_of_getElem? (i := 24) rfl))) (by decide) (backOf (W := 0) (own_rm5 l Z a0 hw [] b9 r8 v62 r6 T57.heap n0 (by omega) f58 f59 f60 (by omega)) hZ (hw _ (List.mem_of_getElem? (i := 26) rfl)) (hw _ (List.mem_of_getElem? (i := 6) rfl)) (by decide) (by decide)) q76a q76c (g := (mkF m 203 #[.val (.int p_1), .val (.int p_2), .val (.int p_3), .val (.int p_4), .val (.int r2), .val (.int r4), .val (.int r6), .val (.int r8), .val (.ref b9), .val (.int (1 : Int32)), .val (.int v34), .val (.int v53), .val (.int v72), .unset] [(.int r8), (.ref b9)])) rfl (by rw [hml]; rfl) (Steps.refl _) (argsL := [(.int r8)]) (rest := []) (lenOf own_pd3 rfl) rfl (by show 2 * 0 + _ ≤ _; exact Nat.le_of_eq rfl) (hb hby at_203) (fun _ _ => ⟨rfl, e74, (by show k74 + _ ≤ _; rw [y74]; decide), (by show n74 + _ ≤ _; rw [z74]; decide)⟩)
  dsimp only [Pt.U, Pt.locs, Pt.cells, Pt.slots] at X76 l76 y76 z76 st76 hQ76
  have y76 : k76 = 1 := own_addeq y76 (congrArg (fun q => q) y74) rfl
  have z76 : n76 = 2 := own_addeq z76 (congrArg (fun q => q) z74) rfl
  obtain ⟨rfl, N76q, K76q, f77, f78, f79⟩ := hQ76
  have N76 : Fr n0 L76 := by rw [l76]; exact Fr.app N74 N76q
  have z80 := K76q.1
  obtain ⟨v81, hdv81⟩ : ∃ z : Int32, z = (own_rm5_current r8 v62 r6) := ⟨_, rfl⟩
  rw [← hdv81] at f77
  have z82 := own_lt f77.lt
  have z83 := own_lt f78.lt
  have z84 := own_lt f79.lt
  refine own_go (fun _ k => st76.trans k) ?_
  show own_Go _ _ _ _ T76 (mkF m 206 #[.val (.int p_1), .val (.int p_2), .val (.int p_3), .val (.int p_4), .val (.int r2), .val (.int r4), .val (.int r6), .val (.int r8), .val (.ref b9), .val (.int (1 : Int32)), .val (.int v34), .val (.int v53), .val (.int v72), .unset] [])
  refine own_go (fun _ k => XS.iload X76.here hx rfl (hb hby at_206) rfl k) ?_
  show own_Go _ _ _ _ T76 (mkF m 208 #[.val (.int p_1), .val (.int p_2), .val (.int p_3), .val (.int p_4), .val (.int r2), .val (.int r4), .val (.int r6), .val (.int r8), .val (.ref b9), .val (.int (1 : Int32)), .val (.int v34), .val (.int v53), .val (.int v72), .unset] [(.int v72)])
  refine own_go (fun _ k => XS.iload X76.here hx rfl (hb hby at_208) rfl k) ?_
  show own_Go _ _ _ _ T76 (mkF m 210 #[.val (.int p_1), .val (.int p_2), .val (.int p_3), .val (.int p_4), .val (.int r2), .val (.int r4), .val (.int r6), .val (.int r8), .val (.ref b9), .val (.int (1 : Int32)), .val (.int v34), .val (.int v53), .val (.int v72), .unset] [(.int r8), (.int v72)])
  obtain ⟨_, _, ⟨T85, L85, k85, n85⟩, -, X85, ⟨Lc85, hQ85, l85, y85, z85⟩, st85⟩ := Jvm.LawKit.callS X76 hx (y := (⟨"com/example/orderly_storefront/orderlystorefront/catalog/LinesCountPinLaw", "cr", "(I)I"⟩ : MethodName)) hown (mvT hZ (hw _ (List.mem_of_getElem? (i := 27) rfl))) (mvT hZ (hw _ (List.mem_of_getElem? (i := 28) rfl))) (mvT hZ (hw _ (List.mem_of_getElem? (i := 2) rfl))) (mvT hZ (hw _ (List.mem_of_getElem? (i := 29) rfl))) (by decide) (backOf (W := 1) (own_rm6 l Z a0 hw [] r8  T76.heap n0 (by omega) ) hZ (hw _ (List.mem_of_getElem? (i := 29) rfl)) (hw _ (List.mem_of_getElem? (i := 2) rfl)) (by decide) (by decide)) (g := (mkF m 210 #[.val (.int p_1), .val (.int p_2), .val (.int p_3), .val (.int p_4), .val (.int r2), .val (.int r4), .val (.int r6), .val (.int r8), .val (.ref b9), .val (.int (1 : Int32)), .val (.int v34), .val (.int v53), .val (.int v72), .unset] [(.int r8), (.int v72)])) rfl (by rw [hml]; rfl) (argsL := [(.int r8)]) (rest := [(.int v72)]) (lenOf own_pd0 rfl) rfl (by show 2 * 0 + _ ≤ _; exact Nat.le_of_eq rfl) (hb hby at_210) (fun _ _ => ⟨rfl, rfl, (by show k76 + _ ≤ _; rw [y76]; decide), (by show n76 + _ ≤ _; rw [z76]; decide)⟩)
  dsimp only [Pt.U, Pt.locs, Pt.cells, Pt.slots] at X85 l85 y85 z85 st85 hQ85
  have y85 : k85 = 1 := own_addeq y85 (congrArg (fun q => q) y76) rfl
  have z85 : n85 = 2 := own_addeq z85 (congrArg (fun q => q) z76) rfl
  obtain ⟨r86, rfl, N85q, hr_r86, e85⟩ := hQ85
  have N85 : Fr n0 L85 := by rw [l85]; exact Fr.app N76 N85q
  refine own_go (fun _ k => st85 _ k) ?_
  show own_Go _ _ _ _ T85 (mkF m 213 #[.val (.int p_1), .val (.int p_2), .val (.int p_3), .val (.int p_4), .val (.int r2), .val (.int r4), .val (.int r6), .val (.int r8), .val (.ref b9), .val (.int (1 : Int32)), .val (.int v34), .val (.int v53), .val (.int v72), .unset] [(.int r86), (.int v72)])
  refine own_go (fun _ k => XS.iadd X85.here hx rfl (hb hby at_213) rfl k) ?_
  show own_Go _ _ _ _ T85 (mkF m 214 #[.val (.int p_1), .val (.int p_2), .val (.int p_3), .val (.int p_4), .val (.int r2), .val (.int r4), .val (.int r6), .val (.int r8), .val (.ref b9), .val (.int (1 : Int32)), .val (.int v34), .val (.int v53), .val (.int v72), .unset] [(.int (v72 + r86))])
  refine own_go (fun _ k => XS.iload X85.here hx rfl (hb hby at_214) rfl k) ?_
  show own_Go _ _ _ _ T85 (mkF m 216 #[.val (.int p_1), .val (.int p_2), .val (.int p_3), .val (.int p_4), .val (.int r2), .val (.int r4), .val (.int r6), .val (.int r8), .val (.ref b9), .val (.int (1 : Int32)), .val (.int v34), .val (.int v53), .val (.int v72), .unset] [(.int r8), (.int (v72 + r86))])
  obtain ⟨_, _, ⟨T87, L87, k87, n87⟩, -, X87, ⟨Lc87, hQ87, l87, y87, z87⟩, st87⟩ := Jvm.LawKit.callS X85 hx (y := (⟨"com/example/orderly_storefront/orderlystorefront/catalog/LinesCountPinLaw", "lf", "(I)I"⟩ : MethodName)) hown (mvT hZ (hw _ (List.mem_of_getElem? (i := 30) rfl))) (mvT hZ (hw _ (List.mem_of_getElem? (i := 31) rfl))) (mvT hZ (hw _ (List.mem_of_getElem? (i := 2) rfl))) (mvT hZ (hw _ (List.mem_of_getElem? (i := 32) rfl))) (by decide) (backOf (W := 1) (own_rm7 l Z a0 hw [] r8  T76.heap n0 (by omega) ) hZ (hw _ (List.mem_of_getElem? (i := 32) rfl)) (hw _ (List.mem_of_getElem? (i := 2) rfl)) (by decide) (by decide)) (g := (mkF m 216 #[.val (.int p_1), .val (.int p_2), .val (.int p_3), .val (.int p_4), .val (.int r2), .val (.int r4), .val (.int r6), .val (.int r8), .val (.ref b9), .val (.int (1 : Int32)), .val (.int v34), .val (.int v53), .val (.int v72), .unset] [(.int r8), (.int (v72 + r86))])) rfl (by rw [hml]; rfl) (argsL := [(.int r8)]) (rest := [(.int (v72 + r86))]) (lenOf own_pd0 rfl) rfl (by show 2 * 0 + _ ≤ _; exact Nat.le_of_eq rfl) (hb hby at_216) (fun _ _ => ⟨rfl, e85, (by show k85 + _ ≤ _; rw [y85]; decide), (by show n85 + _ ≤ _; rw [z85]; decide)⟩)
  dsimp only [Pt.U, Pt.locs, Pt.cells, Pt.slots] at X87 l87 y87 z87 st87 hQ87
  have y87 : k87 = 1 := own_addeq y87 (congrArg (fun q => q) y85) rfl
  have z87 : n87 = 2 := own_addeq z87 (congrArg (fun q => q) z85) rfl
  obtain ⟨r88, rfl, N87q, hr_r88, e87⟩ := hQ87
  have N87 : Fr n0 L87 := by rw [l87]; exact Fr.app N85 N87q
  refine own_go (fun _ k => st87 _ k) ?_
  show own_Go _ _ _ _ T87 (mkF m 219 #[.val (.int p_1), .val (.int p_2), .val (.int p_3), .val (.int p_4), .val (.int r2), .val (.int r4), .val (.int r6), .val (.int r8), .val (.ref b9), .val (.int (1 : Int32)), .val (.int v34), .val (.int v53), .val (.int v72), .unset] [(.int r88), (.int (v72 + r86))])
  refine own_go (fun _ k => XS.iadd X87.here hx rfl (hb hby at_219) rfl k) ?_
  show own_Go _ _ _ _ T87 (mkF m 220 #[.val (.int p_1), .val (.int p_2), .val (.int p_3), .val (.int p_4), .val (.int r2), .val (.int r4), .val (.int r6), .val (.int r8), .val (.ref b9), .val (.int (1 : Int32)), .val (.int v34), .val (.int v53), .val (.int v72), .unset] [(.int ((v72 + r86) + r88))])
  refine own_go (fun _ k => XS.iload X87.here hx rfl (hb hby at_220) rfl k) ?_
  show own_Go _ _ _ _ T87 (mkF m 222 #[.val (.int p_1), .val (.int p_2), .val (.int p_3), .val (.int p_4), .val (.int r2), .val (.int r4), .val (.int r6), .val (.int r8), .val (.ref b9), .val (.int (1 : Int32)), .val (.int v34), .val (.int v53), .val (.int v72), .unset] [(.int r6), (.int ((v72 + r86) + r88))])
  refine own_go (fun _ k => XS.iload X87.here hx rfl (hb hby at_222) rfl k) ?_
  show own_Go _ _ _ _ T87 (mkF m 224 #[.val (.int p_1), .val (.int p_2), .val (.int p_3), .val (.int p_4), .val (.int r2), .val (.int r4), .val (.int r6), .val (.int r8), .val (.ref b9), .val (.int (1 : Int32)), .val (.int v34), .val (.int v53), .val (.int v72), .unset] [(.int r8), (.int r6), (.int ((v72 + r86) + r88))])
  obtain ⟨_, _, ⟨T89, L89, k89, n89⟩, -, X89, ⟨Lc89, hQ89, l89, y89, z89⟩, st89⟩ := Jvm.LawKit.callS X87 hx (y := (⟨"com/example/orderly_storefront/orderlystorefront/catalog/LinesCountPinLaw", "pair", "(II)I"⟩ : MethodName)) hown (mvT hZ (hw _ (List.mem_of_getElem? (i := 33) rfl))) (mvT hZ (hw _ (List.mem_of_getElem? (i := 34) rfl))) (mvT hZ (hw _ (List.mem_of_getElem? (i := 2) rfl))) (mvT hZ (hw _ (List.mem_of_getElem? (i := 35) rfl))) (by decide) (backOf (W := 1) (own_rm8 l Z a0 hw [] r6 r8  T76.heap n0 (by omega) ) hZ (hw _ (List.mem_of_getElem? (i := 35) rfl)) (hw _ (List.mem_of_getElem? (i := 2) rfl)) (by decide) (by decide)) (g := (mkF m 224 #[.val (.int p_1), .val (.int p_2), .val (.int p_3), .val (.int p_4), .val (.int r2), .val (.int r4), .val (.int r6), .val (.int r8), .val (.ref b9), .val (.int (1 : Int32)), .val (.int v34), .val (.int v53), .val (.int v72), .unset] [(.int r8), (.int r6), (.int ((v72 + r86) + r88))])) rfl (by rw [hml]; rfl) (argsL := [(.int r6), (.int r8)]) (rest := [(.int ((v72 + r86) + r88))]) (lenOf own_pd4 rfl) rfl (by show 2 * 0 + _ ≤ _; exact Nat.le_of_eq rfl) (hb hby at_224) (fun _ _ => ⟨rfl, e87, (by show k87 + _ ≤ _; rw [y87]; decide), (by show n87 + _ ≤ _; rw [z87]; decide)⟩)
  dsimp only [Pt.U, Pt.locs, Pt.cells, Pt.slots] at X89 l89 y89 z89 st89 hQ89
  have y89 : k89 = 1 := own_addeq y89 (congrArg (fun q => q) y87) rfl
  have z89 : n89 = 2 := own_addeq z89 (congrArg (fun q => q) z87) rfl
  obtain ⟨r90, rfl, N89q, hr_r90, e89⟩ := hQ89
  have N89 : Fr n0 L89 := by rw [l89]; exact Fr.app N87 N89q
  refine own_go (fun _ k => st89 _ k) ?_
  show own_Go _ _ _ _ T89 (mkF m 227 #[.val (.int p_1), .val (.int p_2), .val (.int p_3), .val (.int p_4), .val (.int r2), .val (.int r4), .val (.int r6), .val (.int r8), .val (.ref b9), .val (.int (1 : Int32)), .val (.int v34), .val (.int v53), .val (.int v72), .unset] [(.int r90), (.int ((v72 + r86) + r88))])
  refine own_go (fun _ k => XS.isub X89.here hx rfl (hb hby at_227) rfl k) ?_
  show own_Go _ _ _ _ T89 (mkF m 228 #[.val (.int p_1), .val (.int p_2), .val (.int p_3), .val (.int p_4), .val (.int r2), .val (.int r4), .val (.int r6), .val (.int r8), .val (.ref b9), .val (.int (1 : Int32)), .val (.int v34), .val (.int v53), .val (.int v72), .unset] [(.int (((v72 + r86) + r88) - r90))])
  refine own_go (fun _ k => XS.istore X89.here hx rfl (hb hby at_228) rfl (l' := #[.val (.int p_1), .val (.int p_2), .val (.int p_3), .val (.int p_4), .val (.int r2), .val (.int r4), .val (.int r6), .val (.int r8), .val (.ref b9), .val (.int (1 : Int32)), .val (.int v34), .val (.int v53), .val (.int v72), .val (.int (((v72 + r86) + r88) - r90))]) rfl k) ?_
  show own_Go _ _ _ _ T89 (mkF m 230 #[.val (.int p_1), .val (.int p_2), .val (.int p_3), .val (.int p_4), .val (.int r2), .val (.int r4), .val (.int r6), .val (.int r8), .val (.ref b9), .val (.int (1 : Int32)), .val (.int v34), .val (.int v53), .val (.int v72), .val (.int (((v72 + r86) + r88) - r90))] [])
  generalize hdv91 : (((v72 + r86) + r88) - r90) = v91
  show own_Go _ _ _ _ T89 (mkF m 230 #[.val (.int p_1), .val (.int p_2), .val (.int p_3), .val (.int p_4), .val (.int r2), .val (.int r4), .val (.int r6), .val (.int r8), .val (.ref b9), .val (.int (1 : Int32)), .val (.int v34), .val (.int v53), .val (.int v72), .val (.int v91)] [])
  refine own_go (fun _ k => XS.iload X89.here hx rfl (hb hby at_230) rfl k) ?_
  show own_Go _ _ _ _ T89 (mkF m 232 #[.val (.int p_1), .val (.int p_2), .val (.int p_3), .val (.int p_4), .val (.int r2), .val (.int r4), .val (.int r6), .val (.int r8), .val (.ref b9), .val (.int (1 : Int32)), .val (.int v34), .val (.int v53), .val (.int v72), .val (.int v91)] [(.int (1 : Int32))])
  have hc92 : ¬ ((1 : Int32) = 0) := by decide
  refine own_go (fun _ k => XS.ifNo X89.here hx rfl (hb hby at_232) rfl (Jvm.Free.XT.i0_eq_f hc92) k) ?_
  show own_Go _ _ _ _ T89 (mkF m 235 #[.val (.int p_1), .val (.int p_2), .val (.int p_3), .val (.int p_4), .val (.int r2), .val (.int r4), .val (.int r6), .val (.int r8), .val (.ref b9), .val (.int (1 : Int32)), .val (.int v34), .val (.int v53), .val (.int v72), .val (.int v91)] [])
  refine own_go (fun _ k => XS.aload X89.here hx rfl (hb hby at_235) rfl rfl k) ?_
  show own_Go _ _ _ _ T89 (mkF m 237 #[.val (.int p_1), .val (.int p_2), .val (.int p_3), .val (.int p_4), .val (.int r2), .val (.int r4), .val (.int r6), .val (.int r8), .val (.ref b9), .val (.int (1 : Int32)), .val (.int v34), .val (.int v53), .val (.int v72), .val (.int v91)] [(.ref b9)])
  obtain ⟨cq93, kq93, q93a, q93b, q93c⟩ := isOf hZ e89 f78
  obtain ⟨_, _, ⟨T93, L93, k93, n93⟩, -, X93, ⟨Lc93, hQ93, l93, y93, z93⟩, st93⟩ := X89.virtualBack hx (y := (⟨"com/example/orderly_storefront/orderlystorefront/catalog/CsvReader$Lines", "current", "()I"⟩ : MethodName)) (z := (⟨"com/example/orderly_storefront/orderlystorefront/catalog/CsvReader$Lines", "current", "()I"⟩ : MethodName)) hown (mvT hZ (hw _ (List.mem_of_getElem? (i := 17) rfl))) (mvT hZ (hw _ (List.mem_of_getElem? (i := 18) rfl))) (notFace_of_selects (args := #[]) (mvT hZ (hw _ (List.mem_of_getElem? (i := 20) rfl)))) (mvT hZ (hw _ (List.mem_of_getElem? (i := 20) rfl))) (mvT hZ (hw _ (List.mem_of_getElem? (i := 19) rfl))) (by decide) (backOf (W := 0) (own_rm4 l Z a0 hw [] b9 v81 T76.heap n0 (by omega) f77) hZ (hw _ (List.mem_of_getElem? (i := 21) rfl)) (hw _ (List.mem_of_getElem? (i := 6) rfl)) (by decide) (by decide)) q93a q93c (g := (mkF m 237 #[.val (.int p_1), .val (.int p_2), .val (.int p_3), .val (.int p_4), .val (.int r2), .val (.int r4), .val (.int r6), .val (.int r8), .val (.ref b9), .val (.int (1 : Int32)), .val (.int v34), .val (.int v53), .val (.int v72), .val (.int v91)] [(.ref b9)])) rfl (by rw [hml]; rfl) (Steps.refl _) (argsL := []) (rest := []) (lenOf own_pd2 rfl) rfl (by show 2 * 0 + _ ≤ _; exact Nat.le_of_eq rfl) (hb hby at_237) (fun _ _ => ⟨rfl, e89, (by show k89 + _ ≤ _; rw [y89]; decide), (by show n89 + _ ≤ _; rw [z89]; decide)⟩)
  dsimp only [Pt.U, Pt.locs, Pt.cells, Pt.slots] at X93 l93 y93 z93 st93 hQ93
  have y93 : k93 = 1 := own_addeq y93 (congrArg (fun q => q) y89) rfl
  have z93 : n93 = 2 := own_addeq z93 (congrArg (fun q => q) z89) rfl
  obtain ⟨rfl, N93q, e93⟩ := hQ93
  have N93 : Fr n0 L93 := by rw [l93]; exact Fr.app N89 N93q
  refine own_go (fun _ k => st93.trans k) ?_
  show own_Go _ _ _ _ T93 (mkF m 240 #[.val (.int p_1), .val (.int p_2), .val (.int p_3), .val (.int p_4), .val (.int r2), .val (.int r4), .val (.int r6), .val (.int r8), .val (.ref b9), .val (.int (1 : Int32)), .val (.int v34), .val (.int v53), .val (.int v72), .val (.int v91)] [(.int v81)])
  refine own_go (fun _ k => XS.iload X93.here hx rfl (hb hby at_240) rfl k) ?_
  show own_Go _ _ _ _ T93 (mkF m 242 #[.val (.int p_1), .val (.int p_2), .val (.int p_3), .val (.int p_4), .val (.int r2), .val (.int r4), .val (.int r6), .val (.int r8), .val (.ref b9), .val (.int (1 : Int32)), .val (.int v34), .val (.int v53), .val (.int v72), .val (.int v91)] [(.int v91), (.int v81)])
  have hc94 : v81 = v91 := own_t0_3 r2 r4 r6 r8 v26 r31 r33 v34 v43 r48 r50 r52 v53 v62 r67 r69 r71 v72 v81 r86 r88 r90 v91 hdv26 hr_r31 hr_r33 hdv34 hc37 hdv43 hr_r48 hr_r50 hr_r52 hdv53 hc56 hdv62 hr_r67 hr_r69 hr_r71 hdv72 hc75 hdv81 hr_r86 hr_r88 hr_r90 hdv91
  refine own_go (fun _ k => XS.icmpNo X93.here hx rfl (hb hby at_242) rfl (Jvm.Free.XT.ii_ne_f hc94) k) ?_
  show own_Go _ _ _ _ T93 (mkF m 245 #[.val (.int p_1), .val (.int p_2), .val (.int p_3), .val (.int p_4), .val (.int r2), .val (.int r4), .val (.int r6), .val (.int r8), .val (.ref b9), .val (.int (1 : Int32)), .val (.int v34), .val (.int v53), .val (.int v72), .val (.int v91)] [])
  refine own_go (fun _ k => XS.iconst X93.here hx rfl (hb hby at_245) k) ?_
  show own_Go _ _ _ _ T93 (mkF m 246 #[.val (.int p_1), .val (.int p_2), .val (.int p_3), .val (.int p_4), .val (.int r2), .val (.int r4), .val (.int r6), .val (.int r8), .val (.ref b9), .val (.int (1 : Int32)), .val (.int v34), .val (.int v53), .val (.int v72), .val (.int v91)] [(.int (1 : Int32))])
  refine own_go (fun _ k => XS.goto X93.here hx rfl (pc0 := 246) (pc' := 250) rfl (hb hby at_246) (by decide) (by decide) k) ?_
  show own_Go _ _ _ _ T93 (mkF m 250 #[.val (.int p_1), .val (.int p_2), .val (.int p_3), .val (.int p_4), .val (.int r2), .val (.int r4), .val (.int r6), .val (.int r8), .val (.ref b9), .val (.int (1 : Int32)), .val (.int v34), .val (.int v53), .val (.int v72), .val (.int v91)] [(.int (1 : Int32))])
  refine own_go (fun _ k => XS.istore X93.here hx rfl (hb hby at_250) rfl (l' := #[.val (.int p_1), .val (.int p_2), .val (.int p_3), .val (.int p_4), .val (.int r2), .val (.int r4), .val (.int r6), .val (.int r8), .val (.ref b9), .val (.int (1 : Int32)), .val (.int v34), .val (.int v53), .val (.int v72), .val (.int v91)]) rfl k) ?_
  show own_Go _ _ _ _ T93 (mkF m 252 #[.val (.int p_1), .val (.int p_2), .val (.int p_3), .val (.int p_4), .val (.int r2), .val (.int r4), .val (.int r6), .val (.int r8), .val (.ref b9), .val (.int (1 : Int32)), .val (.int v34), .val (.int v53), .val (.int v72), .val (.int v91)] [])
  refine own_go (fun _ k => XS.iload X93.here hx rfl (hb hby at_252) rfl k) ?_
  show own_Go _ _ _ _ T93 (mkF m 254 #[.val (.int p_1), .val (.int p_2), .val (.int p_3), .val (.int p_4), .val (.int r2), .val (.int r4), .val (.int r6), .val (.int r8), .val (.ref b9), .val (.int (1 : Int32)), .val (.int v34), .val (.int v53), .val (.int v72), .val (.int v91)] [(.int (1 : Int32))])
  obtain ⟨fs, hr, hrun, hended, hW, hsame⟩ := X93.leave (v := some (.int (1 : Int32))) (fun h => by rw [Bd.returns] at h; cases h)
  refine ⟨_, _, retOut X93 hx Bd.returns rfl (Or.inl ⟨rfl, Or.inr (Or.inl rfl), _, rfl⟩) (hb hby at_254) hr, hrun, hended, _, _, rfl, ?_, ⟨_, rfl⟩, hW, hsame.mono (by rw [y93]; decide) (by rw [z93]; decide)⟩
  show own_Q0 Z p_1 p_2 p_3 p_4 h0 n0 _ T93.heap _
  rw [e93]
  exact ⟨rfl, N93⟩
set_option maxRecDepth 65536 in
set_option maxHeartbeats 40000000 in
theorem comes_1 {Post : Tables → Env → Array Value → State → Outcome → State → Prop} (hpost : ∀ tb e args s v u, (limb_1_1.after args s (.returned v) u = true ∧ limb_1_2.after args s (.returned v) u = true ∧ True) → FrameEnd s (.returned v) u (Jvm.fieldLocs frame_1_writes args s ++ Jvm.arrayLocs frame_1_arrays args s ++ Jvm.staticLocs frame_1_statics s) 16 128 → Post tb e args s (.returned v) u) :
    ArmFor flags0 classFile x code maxLocals ret World_1 tables_1 room_1 Calls_1 rest_1 Pre_1 Post := by
  intro l hfl _ _ p e ha hc hk s m args below hf hA hF happ hP
  obtain ⟨hcalls, hrest, hpre⟩ := hP
  obtain ⟨-, -, -, hnamed, -, -, -, hat⟩ := (Spec.applies_iff hf).mp happ
  obtain ⟨hg, hn⟩ := and_e (Cond.before_iff.mp (show (Jvm.Cond.and given_1 narrow_1).before args s = true from hpre))
  obtain ⟨g1, g2⟩ := and_e hg
  obtain ⟨g3, g4⟩ := and_e g2
  obtain ⟨g5, g6⟩ := and_e g4
  obtain ⟨g7, g8⟩ := and_e g6
  obtain ⟨w0, w1, w2, w3, rfl⟩ : ∃ w0 w1 w2 w3 : Value, args = #[w0, w1, w2, w3] := by
    have hs : args.size = 4 := by simpa [Cond.value, given_1] using g1
    obtain ⟨L⟩ := args
    match L, hs with
    | [w0, w1, w2, w3], _ => exact ⟨w0, w1, w2, w3, rfl⟩
  have hw := fun d (hd : d ∈ tables_1) => atoms_spec (ws := Jvm.Cond.code x code maxLocals ret :: tables_1) hat d (List.mem_cons_of_mem _ hd)
  have hfit : Fit s := fun {y c} hc i hi => by
    obtain ⟨ha, rfl⟩ := Array.getElem?_eq_some_iff.mp hc
    have q := List.all_eq_true.mp ((Array.all_eq_true_iff_forall_mem.mp hF) _ (Array.getElem_mem ha)) i (List.mem_range.mpr hi)
    simpa [Array.getElem?_eq_getElem hi] using q
  obtain ⟨i0, ei0⟩ := is_v g3
  obtain rfl : w0 = (.int i0) := Option.some.inj ei0
  obtain ⟨i1, ei1⟩ := is_v g5
  obtain rfl : w1 = (.int i1) := Option.some.inj ei1
  obtain ⟨i2, ei2⟩ := is_v g7
  obtain rfl : w2 = (.int i2) := Option.some.inj ei2
  obtain ⟨i3, ei3⟩ := is_v g8
  obtain rfl : w3 = (.int i3) := Option.some.inj ei3
  obtain ⟨n, o, h1, h2, h3, _, L, rfl, ⟨rfl, N⟩, hq⟩ := own_rm0 l s _ hw tables_1 i0 i1 i2 i3  s.heap s.heap.size (Nat.le_refl _)  p e ha hc hk s m _ below hf ((Spec.applies_iff_loose hf).mp happ).1 ⟨rfl, State.Warmed39.refl s, rfl⟩ trivial
  refine ⟨n, _, h1, h2, h3, hpost _ _ _ _ _ _ ⟨Cond.after_iff.mpr rfl, Cond.after_iff.mpr (eq_i res_at (Term.int_eval (1)) rfl), trivial⟩ ⟨hq.1, hq.2.1, (hq.2.2.sift fun y hy => Or.inr (N y hy)).mono (by decide) (by decide)⟩⟩
theorem main_1_1 : Claimed_1_1 := comes_1 fun _ _ _ _ _ _ h hF => ⟨h.1, hF⟩
theorem main_1_2 : Claimed_1_2 := comes_1 fun _ _ _ _ _ _ h hF => ⟨h.2.1, hF⟩
end Jvm.Pilot.@@N@@
namespace Jvm.Pilot.@@N@@
open Jvm Jvm.ClassFile Sem Op Lib Jvm.Free Jvm.Stand Jvm.Pilot.@@N@@.Jvm.D
/-! MADE BY PROGRAM (witnessworld.py) out of the Statement's table words and the real class files: 9 classes; the members and pool entries that the words name. The judged class is class 1, her method 5. -/
namespace start1
open Jvm.ClassFile
def u (s : String) : CpInfo := .utf8 (stringToUtf16 s)
/-- a pool by its gaps: so many unusable entries, then the entry; so many at the end -/
def gap : Nat → List CpInfo → List CpInfo
  | 0, r => r
  | n + 1, r => .unusable :: gap n r
def poolList (es : List (Nat × CpInfo)) (last : Nat) : List CpInfo := es.foldr (fun e r => gap e.1 (e.2 :: r)) (gap last [])
def pool (es : List (Nat × CpInfo)) (last : Nat) : Array CpInfo := ⟨poolList es last⟩
def fileOf (pool : Array CpInfo) (this : Nat) (attrs : Array Attribute := #[]) (ms : Array MethodInfo := #[]) (fl : Nat := 33) (sup : Nat := 0) (ifs : Array Nat := #[]) (fds : Array FieldInfo := #[]) : ClassFile where
  minorVersion := 0
  majorVersion := 65
  constantPool := pool
  accessFlags := fl
  thisClass := this
  superClass := sup
  interfaces := ifs
  fields := fds
  methods := ms
  attributes := attrs
def plain (name : String) (sup : Option ClassId) : Class where
  name := name
  kind := .ordinary
  loader := none
  accessFlags := 33
  super := sup
  interfaces := #[]
  cf := none
  fields := #[]
  methods := #[]
  instanceTypes := #[]
  staticTypes := #[]
  resolved := #[]
  callSites := []
  init := .initialized
  statics := none
  mirror := none

def pool0 : Array CpInfo := pool [(5, u "<init>"), (0, u "()V"), (1, .class_ 10), (1, u "java/lang/Object")] 113

def k0c0 : Code := { maxStack := 0, maxLocals := 1, code := object_method_1_code, exceptionTable := #[], attributes := #[] }
def k0m0 : Method := { name := "<init>", desc := "()V", sig := { parameters := [], returnType := none }, accessFlags := 1, code := some k0c0 }
/-- java/lang/Object -/
def k0 : Class := { plain "java/lang/Object" none with
  accessFlags := 33
  interfaces := #[]
  cf := some (fileOf pool0 8 #[] #[{ accessFlags := 1, nameIndex := 5, descriptorIndex := 6, attributes := #[] }] 33 0 #[] #[])
  fields := #[]
  methods := #[k0m0]
  instanceTypes := #[]
  staticTypes := #[]
  resolved := Array.replicate 124 none
  statics := none }

def pool1 : Array CpInfo := pool [(2, .class_ 4), (0, .nameAndType 5 6), (0, u "java/lang/Object"), (0, u "<init>"), (0, u "()V"), (0, .methodref 8 9), (0, .class_ 10), (0, .nameAndType 11 12), (0, u "com/example/orderly_storefront/orderlystorefront/catalog/LinesCountPinLaw"), (0, u "pick"), (0, u "(I)I"), (0, .class_ 14), (0, u "com/example/orderly_storefront/orderlystorefront/catalog/CsvReader$Lines"), (0, .methodref 13 3), (0, .methodref 13 17), (0, .nameAndType 18 19), (0, u "current"), (0, u "()I"), (0, .methodref 13 21), (0, .nameAndType 22 23), (0, u "count"), (0, u "(I)V"), (0, .methodref 8 25), (0, .nameAndType 26 12), (0, u "cr"), (0, .methodref 8 28), (0, .nameAndType 29 12), (0, u "lf"), (0, .methodref 8 31), (0, .nameAndType 32 33), (0, u "pair"), (0, u "(II)I"), (3, u "law"), (0, u "(IIII)Z")] 6

def k1m0 : Method := { name := "<init>", desc := "()V", sig := { parameters := [], returnType := none }, accessFlags := 1, code := none }
def k1c1 : Code := { maxStack := 2, maxLocals := 2, code := method_2_code, exceptionTable := #[], attributes := #[] }
def k1m1 : Method := { name := "pick", desc := "(I)I", sig := { parameters := [.int], returnType := some .int }, accessFlags := 10, code := some k1c1 }
def k1c2 : Code := { maxStack := 2, maxLocals := 1, code := method_3_code, exceptionTable := #[], attributes := #[] }
def k1m2 : Method := { name := "cr", desc := "(I)I", sig := { parameters := [.int], returnType := some .int }, accessFlags := 10, code := some k1c2 }
def k1c3 : Code := { maxStack := 2, maxLocals := 1, code := method_4_code, exceptionTable := #[], attributes := #[] }
def k1m3 : Method := { name := "lf", desc := "(I)I", sig := { parameters := [.int], returnType := some .int }, accessFlags := 10, code := some k1c3 }
def k1c4 : Code := { maxStack := 2, maxLocals := 2, code := method_5_code, exceptionTable := #[], attributes := #[] }
def k1m4 : Method := { name := "pair", desc := "(II)I", sig := { parameters := [.int, .int], returnType := some .int }, accessFlags := 10, code := some k1c4 }
def k1c5 : Code := { maxStack := 3, maxLocals := 14, code := code, exceptionTable := #[], attributes := #[] }
def k1m5 : Method := { name := "law", desc := "(IIII)Z", sig := { parameters := [.int, .int, .int, .int], returnType := some .boolean }, accessFlags := 9, code := some k1c5 }
/-- com/example/orderly_storefront/orderlystorefront/catalog/LinesCountPinLaw -/
def k1 : Class := { plain "com/example/orderly_storefront/orderlystorefront/catalog/LinesCountPinLaw" (some 0) with
  accessFlags := 49
  interfaces := #[]
  cf := some (fileOf pool1 8 #[] #[{ accessFlags := 1, nameIndex := 5, descriptorIndex := 6, attributes := #[] }, { accessFlags := 10, nameIndex := 11, descriptorIndex := 12, attributes := #[] }, { accessFlags := 10, nameIndex := 26, descriptorIndex := 12, attributes := #[] }, { accessFlags := 10, nameIndex := 29, descriptorIndex := 12, attributes := #[] }, { accessFlags := 10, nameIndex := 32, descriptorIndex := 33, attributes := #[] }, { accessFlags := 9, nameIndex := 37, descriptorIndex := 38, attributes := #[] }] 49 2 #[] #[])
  fields := #[]
  methods := #[k1m0, k1m1, k1m2, k1m3, k1m4, k1m5]
  instanceTypes := #[]
  staticTypes := #[]
  resolved := Array.replicate 45 none
  statics := none }

def pool2 : Array CpInfo := pool [(1, .class_ 2), (0, u "com/example/orderly_storefront/orderlystorefront/catalog/CsvReader"), (0, .methodref 4 5), (0, .class_ 6), (0, .nameAndType 7 8), (0, u "java/lang/Object"), (0, u "<init>"), (0, u "()V"), (0, .fieldref 10 11), (0, .class_ 12), (0, .nameAndType 13 14), (0, u "com/example/orderly_storefront/orderlystorefront/catalog/CsvReader$Lines"), (0, u "current"), (0, u "I"), (0, .fieldref 10 16), (0, .nameAndType 17 14), (0, u "previous"), (2, u "count"), (0, u "(I)V"), (1, u "()I")] 5

def k2c0 : Code := { maxStack := 2, maxLocals := 1, code := prog_16_method_1_code, exceptionTable := #[], attributes := #[] }
def k2m0 : Method := { name := "<init>", desc := "()V", sig := { parameters := [], returnType := none }, accessFlags := 0, code := some k2c0 }
def k2c1 : Code := { maxStack := 3, maxLocals := 2, code := prog_16_method_2_code, exceptionTable := #[], attributes := #[] }
def k2m1 : Method := { name := "count", desc := "(I)V", sig := { parameters := [.int], returnType := none }, accessFlags := 0, code := some k2c1 }
def k2c2 : Code := { maxStack := 1, maxLocals := 1, code := prog_16_method_3_code, exceptionTable := #[], attributes := #[] }
def k2m2 : Method := { name := "current", desc := "()I", sig := { parameters := [], returnType := some .int }, accessFlags := 0, code := some k2c2 }
/-- com/example/orderly_storefront/orderlystorefront/catalog/CsvReader$Lines -/
def k2 : Class := { plain "com/example/orderly_storefront/orderlystorefront/catalog/CsvReader$Lines" (some 0) with
  accessFlags := 48
  interfaces := #[]
  cf := some (fileOf pool2 10 #[.nestHost 1] #[{ accessFlags := 0, nameIndex := 7, descriptorIndex := 8, attributes := #[] }, { accessFlags := 0, nameIndex := 20, descriptorIndex := 21, attributes := #[] }, { accessFlags := 0, nameIndex := 13, descriptorIndex := 23, attributes := #[] }] 48 4 #[] #[{ accessFlags := 2, nameIndex := 13, descriptorIndex := 14, attributes := #[] }, { accessFlags := 2, nameIndex := 17, descriptorIndex := 14, attributes := #[] }])
  fields := #[{ name := "current", type := .int, accessFlags := 2, slot := 0, constantValue := 0 }, { name := "previous", type := .int, accessFlags := 2, slot := 1, constantValue := 0 }]
  methods := #[k2m0, k2m1, k2m2]
  instanceTypes := #[.int, .int]
  staticTypes := #[]
  resolved := Array.replicate 29 none
  statics := none }

def pool3 : Array CpInfo := pool [(1, u "java/lang/Cloneable"), (0, .class_ 1), (0, u "java/lang/Object"), (0, .class_ 3)] 3

/-- java/lang/Cloneable -/
def k3 : Class := { plain "java/lang/Cloneable" (some 0) with
  accessFlags := 1537
  interfaces := #[]
  cf := some (fileOf pool3 2 #[] #[] 1537 4 #[] #[])
  fields := #[]
  methods := #[]
  instanceTypes := #[]
  staticTypes := #[]
  resolved := Array.replicate 8 none
  statics := none }

def pool4 : Array CpInfo := pool [(1, u "java/io/Serializable"), (0, .class_ 1), (0, u "java/lang/Object"), (0, .class_ 3)] 3

/-- java/io/Serializable -/
def k4 : Class := { plain "java/io/Serializable" (some 0) with
  accessFlags := 1537
  interfaces := #[]
  cf := some (fileOf pool4 2 #[] #[] 1537 4 #[] #[])
  fields := #[]
  methods := #[]
  instanceTypes := #[]
  staticTypes := #[]
  resolved := Array.replicate 8 none
  statics := none }

/-- the primitive byte -/
def k5 : Class := { plain "byte" none with kind := .primitive 'B', accessFlags := 0x411 }
/-- [B -/
def k6 : Class := { plain "[B" (some 0) with kind := .array 5 .byte, interfaces := #[3, 4], accessFlags := 1041 }

/-- the primitive int -/
def k7 : Class := { plain "int" none with kind := .primitive 'I', accessFlags := 0x411 }
/-- [I -/
def k8 : Class := { plain "[I" (some 0) with kind := .array 7 .int, interfaces := #[3, 4], accessFlags := 1041 }

def heap : Heap := #[]
def classes : Array Class := #[k0, k1, k2, k3, k4, k5, k6, k7, k8]
def interned : List (Array UInt16 × Addr) := []
def slotsUsed : Nat := 0
def theMethod : MethodId := ⟨1, 5⟩
def args0 : Array Value := #[.int 1, .int 2, .int 3, .int 4]
def aboutOver (below : List Frame) : State where
  vm := { classes := classes, interned := interned.toArray }
  heap := heap
  slotsUsed := slotsUsed
  threads := #[{ frames := .invoking theMethod args0 :: below }]
def below0 : List Frame := [.native { method := ⟨0, 0⟩, args := #[] }]
def about1 : State := aboutOver below0
def p0 : Program := .bare "" "" ""
def e0 : Env := launch0.env 0 0 0
theorem w_frames : about1.frames = Frame.invoking theMethod args0 :: below0 := rfl
set_option maxRecDepth 65536 in
theorem w_args : argsFit about1.vm theMethod args0 = true := by decide +kernel
set_option maxRecDepth 65536 in
theorem w_heap : heapFits about1 = true := by decide +kernel
set_option maxRecDepth 65536 in
theorem w_runnable : about1.curStatus? = some .runnable := by decide +kernel
set_option maxRecDepth 65536 in
theorem w_alone : about1.alone = true := by decide +kernel
set_option maxRecDepth 65536 in
theorem w_named : about1.methodNamed? x = some theMethod := by decide +kernel
set_option maxRecDepth 65536 in
theorem w_hears : about1.hears theMethod below0 = true := by decide +kernel
set_option maxRecDepth 65536 in
theorem w_ripe : about1.ripe theMethod args0 below0 = true := by decide +kernel
theorem w_running : about1.status = .running := rfl
set_option maxRecDepth 65536 in
theorem w_room : about1.hasRoom e0.platform room_1 = true :=
  launch0.hasRoom_least _ room_1 (by decide +kernel) (by decide +kernel) (by decide +kernel) (by decide +kernel) (by decide +kernel) (by decide +kernel)
theorem allAtoms_all (ts : List Jvm.Cond) (a : Array Jvm.Value) (st : Jvm.State) : (allAtoms ts).before a st = ts.all (fun c => c.before a st) := by
  induction ts with
  | nil => rfl
  | cons c t ih =>
    show (Jvm.Cond.and c (allAtoms t)).before a st = _
    rw [Jvm.Cond.before_and, ih, List.all_cons]
def words1 : List Jvm.Cond := Jvm.Cond.code x code maxLocals ret :: tables_1
/-- a 'code' word, met by the world's own term for the bytes: nothing is compared byte by byte -/
theorem code_word {y : MethodName} {bytes : ByteArray} {mx : Nat} {rt : Option FieldType} {a : Array Value} {s : State} {m : MethodId} {meth : Method} {c : Code} (h1 : s.methodNamed? y = some m) (h2 : s.vm.method? m = some meth) (h3 : meth.code = some c) (h4 : c.code = bytes)
    (h5 : (c.maxLocals == mx && c.exceptionTable.isEmpty && decide (c.maxStack ≤ mostOperands) && decide (meth.sig.returnType = rt) && !meth.locks && decide (parseMethodDescriptor y.desc = some meth.sig)) = true) : (Jvm.Cond.code y bytes mx rt).before a s = true := by
  simp only [Bool.and_eq_true, beq_iff_eq, Bool.not_eq_true', decide_eq_true_eq] at h5
  obtain ⟨⟨⟨⟨⟨g1, g2⟩, g3⟩, g4⟩, g5⟩, g6⟩ := h5
  simp [Cond.before, Cond.holds, Cond.value, h1, h2, h3, h4, g1, g2, g3, g4, g5, g6]
def isCode : Jvm.Cond → Bool
  | .code _ _ _ _ => true
  | _ => false
theorem all_split {L : List Jvm.Cond} {P : Jvm.Cond → Bool} (h1 : L.all (fun c => isCode c || P c) = true) (h2 : ∀ c ∈ L.filter isCode, P c = true) : L.all P = true := by
  refine List.all_eq_true.mpr fun c hc => ?_
  have h := List.all_eq_true.mp h1 c hc
  rcases Bool.eq_false_or_eq_true (isCode c) with hi | hi
  · exact h2 c (List.mem_filter.mpr ⟨hc, hi⟩)
  · simpa [hi] using h
set_option maxRecDepth 65536 in
theorem w_c0 : (Jvm.Cond.code x code maxLocals ret).before args0 about1 = true := code_word (m := ⟨1, 5⟩) (meth := k1m5) (c := k1c5) (by decide +kernel) rfl rfl rfl (by decide +kernel)
set_option maxRecDepth 65536 in
theorem w_c1 : (Jvm.Cond.code ({ cls := "com/example/orderly_storefront/orderlystorefront/catalog/LinesCountPinLaw", name := "pick", desc := "(I)I" } : Jvm.MethodName) method_2_code (2 : Nat) (Option.some Jvm.ClassFile.FieldType.int)).before args0 about1 = true := code_word (m := ⟨1, 1⟩) (meth := k1m1) (c := k1c1) (by decide +kernel) rfl rfl rfl (by decide +kernel)
set_option maxRecDepth 65536 in
theorem w_c2 : (Jvm.Cond.code ({ cls := "com/example/orderly_storefront/orderlystorefront/catalog/CsvReader$Lines", name := "<init>", desc := "()V" } : Jvm.MethodName) prog_16_method_1_code (1 : Nat) (Option.none : Option Jvm.ClassFile.FieldType)).before args0 about1 = true := code_word (m := ⟨2, 0⟩) (meth := k2m0) (c := k2c0) (by decide +kernel) rfl rfl rfl (by decide +kernel)
set_option maxRecDepth 65536 in
theorem w_c3 : (Jvm.Cond.code ({ cls := "java/lang/Object", name := "<init>", desc := "()V" } : Jvm.MethodName) object_method_1_code (1 : Nat) (Option.none : Option Jvm.ClassFile.FieldType)).before args0 about1 = true := code_word (m := ⟨0, 0⟩) (meth := k0m0) (c := k0c0) (by decide +kernel) rfl rfl rfl (by decide +kernel)
set_option maxRecDepth 65536 in
theorem w_c4 : (Jvm.Cond.code ({ cls := "com/example/orderly_storefront/orderlystorefront/catalog/CsvReader$Lines", name := "current", desc := "()I" } : Jvm.MethodName) prog_16_method_3_code (1 : Nat) (Option.some Jvm.ClassFile.FieldType.int)).before args0 about1 = true := code_word (m := ⟨2, 2⟩) (meth := k2m2) (c := k2c2) (by decide +kernel) rfl rfl rfl (by decide +kernel)
set_option maxRecDepth 65536 in
theorem w_c5 : (Jvm.Cond.code ({ cls := "com/example/orderly_storefront/orderlystorefront/catalog/CsvReader$Lines", name := "count", desc := "(I)V" } : Jvm.MethodName) prog_16_method_2_code (2 : Nat) (Option.none : Option Jvm.ClassFile.FieldType)).before args0 about1 = true := code_word (m := ⟨2, 1⟩) (meth := k2m1) (c := k2c1) (by decide +kernel) rfl rfl rfl (by decide +kernel)
set_option maxRecDepth 65536 in
theorem w_c6 : (Jvm.Cond.code ({ cls := "com/example/orderly_storefront/orderlystorefront/catalog/LinesCountPinLaw", name := "cr", desc := "(I)I" } : Jvm.MethodName) method_3_code (1 : Nat) (Option.some Jvm.ClassFile.FieldType.int)).before args0 about1 = true := code_word (m := ⟨1, 2⟩) (meth := k1m2) (c := k1c2) (by decide +kernel) rfl rfl rfl (by decide +kernel)
set_option maxRecDepth 65536 in
theorem w_c7 : (Jvm.Cond.code ({ cls := "com/example/orderly_storefront/orderlystorefront/catalog/LinesCountPinLaw", name := "lf", desc := "(I)I" } : Jvm.MethodName) method_4_code (1 : Nat) (Option.some Jvm.ClassFile.FieldType.int)).before args0 about1 = true := code_word (m := ⟨1, 3⟩) (meth := k1m3) (c := k1c3) (by decide +kernel) rfl rfl rfl (by decide +kernel)
set_option maxRecDepth 65536 in
theorem w_c8 : (Jvm.Cond.code ({ cls := "com/example/orderly_storefront/orderlystorefront/catalog/LinesCountPinLaw", name := "pair", desc := "(II)I" } : Jvm.MethodName) method_5_code (2 : Nat) (Option.some Jvm.ClassFile.FieldType.int)).before args0 about1 = true := code_word (m := ⟨1, 4⟩) (meth := k1m4) (c := k1c4) (by decide +kernel) rfl rfl rfl (by decide +kernel)
def codes1 : List Jvm.Cond := [Jvm.Cond.code x code maxLocals ret, Jvm.Cond.code ({ cls := "com/example/orderly_storefront/orderlystorefront/catalog/LinesCountPinLaw", name := "pick", desc := "(I)I" } : Jvm.MethodName) method_2_code (2 : Nat) (Option.some Jvm.ClassFile.FieldType.int), Jvm.Cond.code ({ cls := "com/example/orderly_storefront/orderlystorefront/catalog/CsvReader$Lines", name := "<init>", desc := "()V" } : Jvm.MethodName) prog_16_method_1_code (1 : Nat) (Option.none : Option Jvm.ClassFile.FieldType), Jvm.Cond.code ({ cls := "java/lang/Object", name := "<init>", desc := "()V" } : Jvm.MethodName) object_method_1_code (1 : Nat) (Option.none : Option Jvm.ClassFile.FieldType), Jvm.Cond.code ({ cls := "com/example/orderly_storefront/orderlystorefront/catalog/CsvReader$Lines", name := "current", desc := "()I" } : Jvm.MethodName) prog_16_method_3_code (1 : Nat) (Option.some Jvm.ClassFile.FieldType.int), Jvm.Cond.code ({ cls := "com/example/orderly_storefront/orderlystorefront/catalog/CsvReader$Lines", name := "count", desc := "(I)V" } : Jvm.MethodName) prog_16_method_2_code (2 : Nat) (Option.none : Option Jvm.ClassFile.FieldType), Jvm.Cond.code ({ cls := "com/example/orderly_storefront/orderlystorefront/catalog/LinesCountPinLaw", name := "cr", desc := "(I)I" } : Jvm.MethodName) method_3_code (1 : Nat) (Option.some Jvm.ClassFile.FieldType.int), Jvm.Cond.code ({ cls := "com/example/orderly_storefront/orderlystorefront/catalog/LinesCountPinLaw", name := "lf", desc := "(I)I" } : Jvm.MethodName) method_4_code (1 : Nat) (Option.some Jvm.ClassFile.FieldType.int), Jvm.Cond.code ({ cls := "com/example/orderly_storefront/orderlystorefront/catalog/LinesCountPinLaw", name := "pair", desc := "(II)I" } : Jvm.MethodName) method_5_code (2 : Nat) (Option.some Jvm.ClassFile.FieldType.int)]
set_option maxRecDepth 65536 in
theorem codes_eq : words1.filter isCode = codes1 := rfl
theorem w_codes : ∀ c ∈ words1.filter isCode, c.before args0 about1 = true := by
  rw [codes_eq]
  intro c hc
  simp only [codes1, List.mem_cons, List.not_mem_nil, or_false] at hc
  rcases hc with rfl | rfl | rfl | rfl | rfl | rfl | rfl | rfl | rfl
  · exact w_c0
  · exact w_c1
  · exact w_c2
  · exact w_c3
  · exact w_c4
  · exact w_c5
  · exact w_c6
  · exact w_c7
  · exact w_c8
set_option maxRecDepth 65536 in
theorem w_t1 : (words1.take 24).all (fun c => isCode c || c.before args0 about1) = true := by decide +kernel
set_option maxRecDepth 65536 in
theorem w_t2 : (words1.drop 24).all (fun c => isCode c || c.before args0 about1) = true := by decide +kernel
theorem w_tables : (allAtoms (Jvm.Cond.code x code maxLocals ret :: tables_1)).before args0 about1 = true := by
  rw [allAtoms_all]
  show words1.all (fun c => c.before args0 about1) = true
  refine all_split ?_ w_codes
  rw [← List.take_append_drop 24 words1, List.all_append, w_t1, w_t2]
  rfl
set_option maxRecDepth 65536 in
theorem w_case : (Jvm.Cond.and given_1 narrow_1).before args0 about1 = true := by decide +kernel
theorem w_applies : (headSpec (Jvm.Cond.code x code maxLocals ret :: tables_1) room_1).applies x e0.platform about1 = true :=
  (Spec.applies_iff w_frames).mpr ⟨w_running, w_runnable, w_alone, w_named, w_hears, w_ripe, w_room, w_tables⟩
theorem atStart : AtStart classFile x code maxLocals ret World_1 tables_1 room_1 Calls_1 rest_1 Pre_1 launch0 p0 e0 about1 theMethod args0 below0 :=
  ⟨lists_1, trivial, launch0.admits_env _ _ _, launch0.least_env, fairChoices_fair.cas, fairChoices_fair.clock, w_frames, w_args, w_heap, w_applies, trivial, trivial, w_case⟩
end start1
theorem witness_1 : WitnessClaimed_1 := ⟨start1.p0, start1.e0, start1.about1, start1.theMethod, start1.args0, start1.below0, start1.atStart⟩
end Jvm.Pilot.@@N@@
