import JvmDerived
import JvmDerived.Pilot.@@N@@Statement
import JvmDerived.Pilot.@@N@@Code
set_option linter.unusedVariables false
set_option linter.unusedSimpArgs false
namespace Jvm.Pilot.@@N@@
open Jvm Jvm.ClassFile Sem Op Lib Jvm.Free Jvm.Stand Jvm.LawKit Jvm.RoadKit Bundle Jvm.Pilot.@@N@@.Jvm.D
def own_Go (tb : Tables) (e : Env) (below : List Frame) (P : State → Outcome → Prop) (T : State) (g : JFrame) : Prop := ∃ t o, Steps tb e below (T.setTop g) t ∧ P t o
theorem own_go {tb : Tables} {e : Env} {below : List Frame} {P : State → Outcome → Prop} {T T' : State} {g g' : JFrame} (k : ∀ target, Steps tb e below (T'.setTop g') target → Steps tb e below (T.setTop g) target) (h : own_Go tb e below P T' g') : own_Go tb e below P T g := by
  obtain ⟨t, o, a, b⟩ := h
  exact ⟨t, o, k t a, b⟩
theorem own_cast {P Q : Prop} (h : P = Q) (p : P) : Q := h ▸ p
def own_upd (f : Nat → Value) (k : Nat) (v : Value) : Nat → Value := fun i => if i = k then v else f i
/-- an array of length z at a, its element i being f i -/
def own_AV (Z : State) (h : Heap) (a : Addr) (ty : FieldType) (z : Int32) (f : Nat → Value) : Prop := ¬ z < 0 ∧ ∃ c : Cell, Arr Z h a c ty ∧ c.slots.size = z.toNatClampNeg ∧ ∀ i, i < c.slots.size → c.slots[i]? = some (f i)
section
variable {Z : State} {h h' : Heap} {a b : Addr} {ty : FieldType} {z j : Int32} {f : Nat → Value} {v w : Value} {sl k : Nat} {ws : List Addr} {cA : ClassId}
theorem own_AV.lt (F : own_AV Z h a ty z f) : a < h.size := by obtain ⟨_, c, A, -⟩ := F; exact A.lt
theorem own_AV.ext (F : own_AV Z h a ty z f) (E : Ext h h') : own_AV Z h' a ty z f := by obtain ⟨q, c, A, r⟩ := F; exact ⟨q, c, A.ext E, r⟩
theorem own_AV.other (F : own_AV Z h b ty z f) (W : Wr h h' a sl v) (q : b ≠ a) : own_AV Z h' b ty z f := by obtain ⟨q1, c, A, r⟩ := F; exact ⟨q1, c, A.other W q, r⟩
theorem own_AV.keep (F : own_AV Z h a ty z f) (K : Keep h h' ws) (q : a ∉ ws) : own_AV Z h' a ty z f := by obtain ⟨q1, c, A, r⟩ := F; exact ⟨q1, c, ⟨K.2.1 a c A.1 q, A.2⟩, r⟩
theorem own_AV.new (A : Arr Z h a (newA cA ty z) ty) (q : ¬ z < 0) : own_AV Z h a ty z (fun _ => defaultValue ty) :=
  ⟨q, _, A, sz_new _ _ _, fun i hi => by
    rw [sz_new] at hi
    simp [newA, hi]⟩
theorem own_AV.set (F : own_AV Z h a ty z f) (W : Wr h h' a j.toNatClampNeg v) (hk : j.toNatClampNeg = k) : own_AV Z h' a ty z (own_upd f k v) := by
  obtain ⟨q, c, A, s, t⟩ := F
  subst hk
  refine ⟨q, _, A.same W, by rw [sz_set]; exact s, fun i hi => ?_⟩
  rw [sz_set] at hi
  by_cases e : i = j.toNatClampNeg
  · subst e; simp [own_upd, Cell.setSlot, hi]
  · simp only [own_upd, if_neg e, Cell.setSlot]
    rw [Array.getElem?_setIfInBounds_ne (Ne.symm e)]; exact t i hi
theorem own_at {c : Cell} (t : ∀ i, i < c.slots.size → c.slots[i]? = some (f i)) (s : c.slots.size = z.toNatClampNeg) (hin : ¬ (j < 0 ∨ c.slots.size ≤ j.toNatClampNeg)) (hk : j.toNatClampNeg = k) (hv : f k = v) : c.slots[j.toNatClampNeg]? = some v := by
  rw [t _ (Nat.lt_of_not_le fun q => hin (Or.inr q)), hk, hv]
theorem own_sta_keep {C n d : String} (F : Sta Z h C n d w) (K : Keep h h' ws) (q : ∀ x ∈ ws, ∀ c : Cell, h[x]? = some c → c.vm.isStatics = false) : Sta Z h' C n d w := by
  obtain ⟨cf, i, k, f, st, cell, h1, h2, h3, h4, h5, h6, h7⟩ := F
  exact ⟨cf, i, k, f, st, cell, h1, h2, h3, h4, K.2.1 st cell h5 (fun m => by rw [q st m cell h5] at h6; cases h6), h6, h7⟩
theorem own_exa_plain {C : String} (F : Exa Z h a C) : ∀ c : Cell, h[a]? = some c → c.vm.isStatics = false := fun c hc => by
  obtain ⟨c1, k, h1, -, -, h4, -⟩ := F; cases h1.symm.trans hc; exact h4
theorem own_AV.plain (F : own_AV Z h a ty z f) : ∀ c : Cell, h[a]? = some c → c.vm.isStatics = false := fun c hc => by
  obtain ⟨_, c1, A, -⟩ := F; cases A.1.symm.trans hc; exact A.plain
end
theorem own_narb {x : Int32} (h : x = 0 ∨ x = 1) : nar .boolean x = x := by rcases h with rfl | rfl <;> rfl
theorem own_exa_ref {args : Array Value} {s : State} {t : Term} {C : String} (hx : (Jvm.Cond.exactly t C).value args s none s [] = some true) : ∃ a, t.eval args s none [] s = some (.ref a) ∧ Exa s s.heap a C := by
  obtain ⟨a', c', cell, k, e1, -⟩ := Cond.exactly_spec (Cond.before_iff.mpr hx)
  exact ⟨a', e1, Exa.start e1 hx⟩
theorem own_eq_int {args : Array Value} {s : State} {t : Term} {k : Int32} (h : (Jvm.Cond.eq t (Jvm.Term.int k)).value args s none s [] = some true) : t.eval args s none [] s = some (.int k) := by
  cases hv : t.eval args s none [] s with
  | none => simp [Cond.value, hv] at h
  | some v => cases v <;> simp [Cond.value, hv, Term.eval] at h <;> simp [h]
theorem own_fld_int {args : Array Value} {s : State} {t : Term} {C n d : String} {a : Addr} {k : Int32} (ev : t.eval args s none [] s = some (.ref a)) (h : (Jvm.Cond.eq (Jvm.Term.field t C n d) (Jvm.Term.int k)).value args s none s [] = some true) : Fld s s.heap a C n d (.int k) :=
  Fld.start ((fld_at ev).symm.trans (own_eq_int h))
theorem own_nar_c (x : Int32) : nar .char (x.toUInt32.toUInt16.toUInt32.toInt32) = x.toUInt32.toUInt16.toUInt32.toInt32 := Value.int.inj (Jvm.Free.XT.narrow_c x)
theorem own_nar_b (x : Int32) : nar .byte (x.toInt8.toInt32) = x.toInt8.toInt32 := Value.int.inj (Jvm.Free.XT.narrow_b x)
theorem own_NSroot {Z : State} {a0 : Array Value} {O K : String} {n : Nat} (w : (Jvm.Cond.noSuperclass O).before a0 Z = true) (wk : (Jvm.Cond.instantiable K n).before a0 Z = true) (hn : O ≠ K) : NS Z O K := by
  obtain ⟨c, k, h1, h2, h3, -, -⟩ := Cond.noSuperclass_spec w
  obtain ⟨t, kt, g1, -⟩ := Cond.instantiable_spec wk
  have ne := ids_ne h1 g1 hn
  refine ⟨c, t, h1, g1, fun fuel => ?_⟩
  cases fuel with
  | zero => rfl
  | succ f => simp [Vm.isSubclassAux, ne, h2, h3]
theorem own_NSno {Z : State} {a0 : Array Value} {C S K : String} {m : Nat} (w : (Jvm.Cond.superclass C S).before a0 Z = true) (wk : (Jvm.Cond.instantiable K m).before a0 Z = true) (n : NS Z C K) (hn : C ≠ K) : ∃ c t, Z.vm.findClass C = some c ∧ Z.vm.findClass K = some t ∧ Z.vm.assignable c t = false := by
  obtain ⟨c, t, h0, g0, n3⟩ := n
  obtain ⟨p, k, kp, h1, h2, h3, h4, h5, -, h7⟩ := Cond.superclass_spec h0 w
  obtain ⟨t', k', g1, g2, g5, g7, -⟩ := Cond.instantiable_spec wk
  cases g0.symm.trans g1
  have g8 : k'.isInterface = false := by
    cases hi : k'.isInterface <;> simp [hi] at g7 ⊢
  have ne := ids_ne h0 g0 hn
  refine ⟨c, t, h0, g0, ?_⟩
  show Z.vm.assignableAux (255 + 1) c t = false
  simp [Vm.assignableAux, ne, h2, g2, h5, g5, g8, Vm.isSubclass, n3]
theorem own_monoW {s t : State} {o : Outcome} {L : List Loc} {k n k' n' : Nat} (h : ReturnedEndW s o t L k n) (hk : k ≤ k') (hn : n ≤ n') : ReturnedEndW s o t L k' n' := ⟨h.1, h.2.1, h.2.2.1, h.2.2.2.mono hk hn⟩
theorem own_ldcSL {p : Program} {l : Launch} {e : Env} {R : Room} {s : State} {vm0 : Vm} {m : MethodId} {args : Array Value} {below : List Frame} {meth : Method} {c : Code} {T : State} {locs : List Loc} {cells slots : Nat} {Z : State} {a0 : Array Value} {h : Heap}
    (X : Stand p l e R (s.setVm vm0) m args below meth c T locs cells slots) (hx : p.tables.exec = Jvm.exec) (hZ : Z.Warmed39 vm0) {own text : String} {index : Nat} (hown : vm0.findClass own = some m.cls) (w : (Jvm.Cond.stringLink own index text).before a0 Z = true) (wS : ∀ a ∈ Bundle.stringAtoms, a.before a0 Z = true)
    (eT : T.heap = h) {k0 : Nat} (hS : s.Since vm0 k0) (hk : k0 ≤ h.size) {g : JFrame} (hg : g.method = m) (hd : decode c.code g.pc = .ok (.ldc index, 2)) {n : Nat} (hn : 4 * text.toList.length ≤ n) (hbig : n ≤ 536870912) (hc : cells + 2 ≤ R.cells) (hl : slots + (n + 4) ≤ R.slots) :
    ∃ (a : Addr) (T' : State) (h' : Heap) (k1 : Nat), Stand p l e R (s.setVm T'.vm) m args below meth c T' locs (cells + 2) (slots + (n + 4)) ∧ T'.heap = h' ∧ Ext h h' ∧ s.Since T'.vm k1 ∧ k1 ≤ h'.size ∧ Z.Warmed39 (s.setVm T'.vm).vm ∧ (s.setVm T'.vm).vm.findClass own = some m.cls ∧ Lit (s.setVm T'.vm) own index a ∧ (s.setVm vm0).Warmed39 T'.vm ∧
      ∀ target, Steps p.tables e below (T'.setTop { g with pc := g.pc + 2, stack := .ref a :: g.stack }) target → Steps p.tables e below (T.setTop g) target := by
  have wS' : ∀ d ∈ Bundle.stringAtoms, d.before args (s.setVm vm0) = true := fun d hd => by
    have q := wS d hd
    simp only [Bundle.stringAtoms, List.mem_cons, List.not_mem_nil, or_false] at hd
    rcases hd with rfl | rfl | rfl | rfl | rfl | rfl | rfl
    · exact mv (s := s.setVm vm0) hZ q
    · exact mv (s := s.setVm vm0) hZ q
    · exact mvA (s := s.setVm vm0) hZ q
    · exact mv (s := s.setVm vm0) hZ q
    · exact mv (s := s.setVm vm0) hZ q
    · exact mv (s := s.setVm vm0) hZ q
    · exact mv (s := s.setVm vm0) hZ q
  obtain ⟨a, T', X', hS', ⟨kk, hkk, hrr⟩, hb, -, st⟩ := X.ldcStringCold hx (own := own) hown (mvS hZ w) wS' hg hd hn hbig hc hl
  subst eT
  have hf : T'.vm.findClass own = some m.cls := by rw [hS'.1.alike.findClass]; exact hown
  exact ⟨a, T', _, _, X', rfl, ext_of hb, hS.trans hS' (Nat.le_trans hk (ext_of hb).1), Nat.le_refl _, State.Warmed39.trans (t := s.setVm vm0) hZ hS'.1, hf, by simp [Lit, State.resolvedAt?, hf, hkk, hrr], hS'.1, st⟩
theorem own_selfsel {Z s : State} {a0 args : Array Value} {y : MethodName} {n : Nat} (hZ : Z.Warmed39 s.vm) (wi : (Jvm.Cond.instantiable y.cls n).before a0 Z = true) (wm : (Jvm.Cond.instanceMethod y).before a0 Z = true) (wp : (Jvm.Cond.privateMethod y).before a0 Z = true) (hy : y.cls ≠ "java/lang/invoke/MethodHandle" ∧ y.cls ≠ "java/lang/invoke/VarHandle") : (Jvm.Cond.selects y.cls y y).before args s = true := by
  obtain ⟨c, k, h1, h2, -, h4, -⟩ := Cond.instantiable_spec (mvT (args := args) hZ wi)
  have g8 : k.isInterface = false := by
    cases hi : k.isInterface <;> simp [hi] at h4 ⊢
  exact selects_self_of_private h1 h2 g8 (Cond.privateMethod_at (mvP hZ wp (args := #[]))) (mvT hZ wm) hy
theorem own_addeq {k a b m n : Nat} (h : k = a + b) (h1 : a = m) (h2 : m + b = n) : k = n := by subst h1; exact h.trans h2
theorem own_lt {a b : Nat} (h : a < b) : a < b := h
theorem own_ne {a b : Nat} (h : a < b ∨ b < a) : a ≠ b := by omega
def own_lts : List Nat → Prop
  | a :: b :: r => a < b ∧ own_lts (b :: r)
  | _ => True

theorem own_pn0 : plainName "java/lang/Integer" = true := by first | (simp [plainName, overriddenIn]; done) | decide +kernel
theorem own_pn1 : plainName "com/example/fencepost/fencepost/connector/RecordLimit" = true := by first | (simp [plainName, overriddenIn]; done) | decide +kernel
theorem own_pn2 : plainName "com/example/fencepost/fencepost/connector/RecordLimitLargestValuePinLaw" = true := by first | (simp [plainName, overriddenIn]; done) | decide +kernel
theorem own_pn3 : plainName "java/lang/Record" = true := by first | (simp [plainName, overriddenIn]; done) | decide +kernel
theorem own_pd0 : parseMethodDescriptor "(I)I" = some ⟨[.int], some .int⟩ := by decide +kernel
theorem own_pd1 : parseMethodDescriptor "(II)I" = some ⟨[.int, .int], some .int⟩ := by decide +kernel
theorem own_pd2 : parseMethodDescriptor "([B)I" = some ⟨[(.array .byte)], some .int⟩ := by decide +kernel
theorem own_pd3 : parseMethodDescriptor "()V" = some ⟨[], none⟩ := by decide +kernel
theorem own_pd4 : parseMethodDescriptor "(ILjava/lang/String;Ljava/lang/String;)V" = some ⟨[.int, (.object "java/lang/String"), (.object "java/lang/String")], none⟩ := by decide +kernel
theorem own_wS {Z : State} {a0 : Array Value} (hw : ∀ d ∈ tables_1, d.before a0 Z = true) : ∀ a ∈ Bundle.stringAtoms, a.before a0 Z = true := fun d hd => by
  simp only [Bundle.stringAtoms, List.mem_cons, List.not_mem_nil, or_false] at hd
  rcases hd with rfl | rfl | rfl | rfl | rfl | rfl | rfl
  · exact hw _ (List.mem_of_getElem? (i := 10) rfl)
  · exact hw _ (List.mem_of_getElem? (i := 11) rfl)
  · exact hw _ (List.mem_of_getElem? (i := 1) rfl)
  · exact hw _ (List.mem_of_getElem? (i := 12) rfl)
  · exact hw _ (List.mem_of_getElem? (i := 13) rfl)
  · exact hw _ (List.mem_of_getElem? (i := 14) rfl)
  · exact hw _ (List.mem_of_getElem? (i := 15) rfl)
theorem own_clamp {z : Int32} {n : Nat} (h : 0 ≤ z.toInt ∧ z.toInt ≤ (n : Int)) : z.toNatClampNeg ≤ n := by
  have q : ¬ z < 0 := by rw [Int32.lt_iff_toInt_lt]; show ¬ z.toInt < 0; omega
  have := nat_of q
  omega
theorem own_d9_0 : decode jdk_33_method_47_code 0 = .ok (.iload_n 0, 1) := by decide +kernel
theorem own_d9_1 : decode jdk_33_method_47_code 1 = .ok (.ifCond .gt 14, 3) := by decide +kernel
theorem own_d9_4 : decode jdk_33_method_47_code 4 = .ok (.iload_n 0, 1) := by decide +kernel
theorem own_d9_5 : decode jdk_33_method_47_code 5 = .ok (.ifCond .ne 8, 3) := by decide +kernel
theorem own_d9_8 : decode jdk_33_method_47_code 8 = .ok (.bipush 32, 2) := by decide +kernel
theorem own_d9_10 : decode jdk_33_method_47_code 10 = .ok (.goto 4, 3) := by decide +kernel
theorem own_d9_14 : decode jdk_33_method_47_code 14 = .ok (.ireturn, 1) := by decide +kernel
theorem own_ef_own_rm9_0 (m : MethodId)  : entryFrame m #[(.int (0 : Int32))] 2 = mkF m 0 #[.val (.int (0 : Int32)), .unset] [] := by first | (simp [entryFrame, mkF, argsToLocals, Value.category]; done) | rfl
def own_Q9_0 (Z : State)  (h0 : Heap) (n0 : Nat) (v : Option Value) (h : Heap) (L : List Loc) : Prop := v = some (.int (32 : Int32)) ∧ Fr n0 L ∧ h = h0
set_option maxRecDepth 65536 in
set_option maxHeartbeats 40000000 in
theorem own_rm9_0 (l : Launch) (Z : State) (a0 : Array Value) (hw : ∀ d ∈ tables_1, d.before a0 Z = true) (ws : List Jvm.Cond)  (h0 : Heap) (n0 : Nat) (Z0 : n0 ≤ h0.size) :
    MetFree l (⟨"java/lang/Integer", "numberOfLeadingZeros", "(I)I"⟩ : MethodName) (head1 (Jvm.Cond.code (⟨"java/lang/Integer", "numberOfLeadingZeros", "(I)I"⟩ : MethodName) jdk_33_method_47_code 2 (some .int) :: ws) ({ frames := 0, cells := 0, slots := 0, locals := 0 } : Room)) (fun a U => a = #[(.int (0 : Int32))] ∧ Z.Warmed39 U.vm ∧ U.heap = h0) (fun _ _ _ _ _ => True) (fun _ U o U' => ∃ v L, o = .returned v ∧ own_Q9_0 Z  h0 n0 v U'.heap L ∧ FrameEnd U o U' L ({ frames := 0, cells := 0, slots := 0, locals := 0 } : Room).cells ({ frames := 0, cells := 0, slots := 0, locals := 0 } : Room).slots) := by
  refine MetFree.of_bodySF (plainFor_of_name own_pn0) hisR ?_
  intro p e s m args below meth c s₁ Bd hml0 hP hK
  obtain ⟨rfl, hZ, hh⟩ := hP
  have hx := Bd.exec
  have hby := Bd.bytes
  have hml : c.maxLocals = 2 := hml0
  have hown : s.vm.findClass "java/lang/Integer" = some m.cls := findClass_of_methodNamed Bd.named
  have hnm := (name_of_methodNamed Bd.named Bd.method).1
  have X0 : Stand p l e ({ frames := 0, cells := 0, slots := 0, locals := 0 } : Room) s m #[(.int (0 : Int32))] below meth c s₁ [] 0 0 := Stand.of_body Bd
  have e0 : s₁.heap = h0 := by rw [← hh, Bd.state]; rfl
  have N0 := Fr.nil n0
  have z0 : n0 ≤ h0.size := Z0
  show own_Go p.tables e below (fun t o => t.status = .running ∧ Ended t below o ∧ ∃ v L, o = .returned v ∧ own_Q9_0 Z  h0 n0 v t.heap L ∧ FrameEnd s o t L ({ frames := 0, cells := 0, slots := 0, locals := 0 } : Room).cells ({ frames := 0, cells := 0, slots := 0, locals := 0 } : Room).slots) s₁ (entryFrame m #[(.int (0 : Int32))] 2)
  rw [own_ef_own_rm9_0 m ]
  show own_Go _ _ _ _ s₁ (mkF m 0 #[.val (.int (0 : Int32)), .unset] [])
  refine own_go (fun _ k => XS.iloadN X0.here hx rfl (hb hby own_d9_0) rfl k) ?_
  show own_Go _ _ _ _ s₁ (mkF m 1 #[.val (.int (0 : Int32)), .unset] [(.int (0 : Int32))])
  have hc1 : ¬ (0 < (0 : Int32)) := by decide
  refine own_go (fun _ k => XS.ifNo X0.here hx rfl (hb hby own_d9_1) rfl (Jvm.Free.XT.i0_gt_f hc1) k) ?_
  show own_Go _ _ _ _ s₁ (mkF m 4 #[.val (.int (0 : Int32)), .unset] [])
  refine own_go (fun _ k => XS.iloadN X0.here hx rfl (hb hby own_d9_4) rfl k) ?_
  show own_Go _ _ _ _ s₁ (mkF m 5 #[.val (.int (0 : Int32)), .unset] [(.int (0 : Int32))])
  have hc2 : (0 : Int32) = 0 := by decide
  refine own_go (fun _ k => XS.ifNo X0.here hx rfl (hb hby own_d9_5) rfl (Jvm.Free.XT.i0_ne_f hc2) k) ?_
  show own_Go _ _ _ _ s₁ (mkF m 8 #[.val (.int (0 : Int32)), .unset] [])
  refine own_go (fun _ k => XS.bipush X0.here hx rfl (hb hby own_d9_8) k) ?_
  show own_Go _ _ _ _ s₁ (mkF m 10 #[.val (.int (0 : Int32)), .unset] [(.int (32 : Int32))])
  refine own_go (fun _ k => XS.goto X0.here hx rfl (pc0 := 10) (pc' := 14) rfl (hb hby own_d9_10) (by decide) (by decide) k) ?_
  show own_Go _ _ _ _ s₁ (mkF m 14 #[.val (.int (0 : Int32)), .unset] [(.int (32 : Int32))])
  obtain ⟨fs, hr, hrun, hended, hW, hsame⟩ := X0.leave (v := some (.int (32 : Int32))) (fun h => by rw [Bd.returns] at h; cases h)
  refine ⟨_, _, retOut X0 hx Bd.returns rfl (Or.inl ⟨rfl, Or.inl rfl, _, rfl⟩) (hb hby own_d9_14) hr, hrun, hended, _, _, rfl, ?_, ⟨_, rfl⟩, hW, hsame.mono (by decide) (by decide)⟩
  show own_Q9_0 Z  h0 n0 _ s₁.heap _
  rw [e0]
  exact ⟨rfl, N0, rfl⟩
theorem own_d9_15 : decode jdk_33_method_47_code 15 = .ok (.bipush 31, 2) := by decide +kernel
theorem own_d9_17 : decode jdk_33_method_47_code 17 = .ok (.istore_n 1, 1) := by decide +kernel
theorem own_d9_18 : decode jdk_33_method_47_code 18 = .ok (.iload_n 0, 1) := by decide +kernel
theorem own_d9_19 : decode jdk_33_method_47_code 19 = .ok (.ldc_w 264, 3) := by decide +kernel
theorem own_d9_22 : decode jdk_33_method_47_code 22 = .ok (.if_icmp .lt 11, 3) := by decide +kernel
theorem own_d9_33 : decode jdk_33_method_47_code 33 = .ok (.iload_n 0, 1) := by decide +kernel
theorem own_d9_34 : decode jdk_33_method_47_code 34 = .ok (.sipush 256, 3) := by decide +kernel
theorem own_d9_37 : decode jdk_33_method_47_code 37 = .ok (.if_icmp .lt 11, 3) := by decide +kernel
theorem own_d9_48 : decode jdk_33_method_47_code 48 = .ok (.iload_n 0, 1) := by decide +kernel
theorem own_d9_49 : decode jdk_33_method_47_code 49 = .ok (.bipush 16, 2) := by decide +kernel
theorem own_d9_51 : decode jdk_33_method_47_code 51 = .ok (.if_icmp .lt 10, 3) := by decide +kernel
theorem own_d9_61 : decode jdk_33_method_47_code 61 = .ok (.iload_n 0, 1) := by decide +kernel
theorem own_d9_62 : decode jdk_33_method_47_code 62 = .ok (.iconst 4, 1) := by decide +kernel
theorem own_d9_63 : decode jdk_33_method_47_code 63 = .ok (.if_icmp .lt 10, 3) := by decide +kernel
theorem own_d9_73 : decode jdk_33_method_47_code 73 = .ok (.iload_n 1, 1) := by decide +kernel
theorem own_d9_74 : decode jdk_33_method_47_code 74 = .ok (.iload_n 0, 1) := by decide +kernel
theorem own_d9_75 : decode jdk_33_method_47_code 75 = .ok (.iconst 1, 1) := by decide +kernel
theorem own_d9_76 : decode jdk_33_method_47_code 76 = .ok (.iushr, 1) := by decide +kernel
theorem own_d9_77 : decode jdk_33_method_47_code 77 = .ok (.isub, 1) := by decide +kernel
theorem own_d9_78 : decode jdk_33_method_47_code 78 = .ok (.ireturn, 1) := by decide +kernel
theorem own_ef_own_rm9_1 (m : MethodId)  : entryFrame m #[(.int (1 : Int32))] 2 = mkF m 0 #[.val (.int (1 : Int32)), .unset] [] := by first | (simp [entryFrame, mkF, argsToLocals, Value.category]; done) | rfl
def own_Q9_1 (Z : State)  (h0 : Heap) (n0 : Nat) (v : Option Value) (h : Heap) (L : List Loc) : Prop := v = some (.int (31 : Int32)) ∧ Fr n0 L ∧ h = h0
set_option maxRecDepth 65536 in
set_option maxHeartbeats 40000000 in
theorem own_rm9_1 (l : Launch) (Z : State) (a0 : Array Value) (hw : ∀ d ∈ tables_1, d.before a0 Z = true) (ws : List Jvm.Cond)  (h0 : Heap) (n0 : Nat) (Z0 : n0 ≤ h0.size) :
    MetFree l (⟨"java/lang/Integer", "numberOfLeadingZeros", "(I)I"⟩ : MethodName) (head1 (Jvm.Cond.code (⟨"java/lang/Integer", "numberOfLeadingZeros", "(I)I"⟩ : MethodName) jdk_33_method_47_code 2 (some .int) :: ws) ({ frames := 0, cells := 0, slots := 0, locals := 0 } : Room)) (fun a U => a = #[(.int (1 : Int32))] ∧ Z.Warmed39 U.vm ∧ U.heap = h0) (fun _ _ _ _ _ => True) (fun _ U o U' => ∃ v L, o = .returned v ∧ own_Q9_1 Z  h0 n0 v U'.heap L ∧ FrameEnd U o U' L ({ frames := 0, cells := 0, slots := 0, locals := 0 } : Room).cells ({ frames := 0, cells := 0, slots := 0, locals := 0 } : Room).slots) := by
  refine MetFree.of_bodySF (plainFor_of_name own_pn0) hisR ?_
  intro p e s m args below meth c s₁ Bd hml0 hP hK
  obtain ⟨rfl, hZ, hh⟩ := hP
  have hx := Bd.exec
  have hby := Bd.bytes
  have hml : c.maxLocals = 2 := hml0
  have hown : s.vm.findClass "java/lang/Integer" = some m.cls := findClass_of_methodNamed Bd.named
  have hnm := (name_of_methodNamed Bd.named Bd.method).1
  have X0 : Stand p l e ({ frames := 0, cells := 0, slots := 0, locals := 0 } : Room) s m #[(.int (1 : Int32))] below meth c s₁ [] 0 0 := Stand.of_body Bd
  have e0 : s₁.heap = h0 := by rw [← hh, Bd.state]; rfl
  have N0 := Fr.nil n0
  have z0 : n0 ≤ h0.size := Z0
  show own_Go p.tables e below (fun t o => t.status = .running ∧ Ended t below o ∧ ∃ v L, o = .returned v ∧ own_Q9_1 Z  h0 n0 v t.heap L ∧ FrameEnd s o t L ({ frames := 0, cells := 0, slots := 0, locals := 0 } : Room).cells ({ frames := 0, cells := 0, slots := 0, locals := 0 } : Room).slots) s₁ (entryFrame m #[(.int (1 : Int32))] 2)
  rw [own_ef_own_rm9_1 m ]
  show own_Go _ _ _ _ s₁ (mkF m 0 #[.val (.int (1 : Int32)), .unset] [])
  refine own_go (fun _ k => XS.iloadN X0.here hx rfl (hb hby own_d9_0) rfl k) ?_
  show own_Go _ _ _ _ s₁ (mkF m 1 #[.val (.int (1 : Int32)), .unset] [(.int (1 : Int32))])
  have hc1 : 0 < (1 : Int32) := by decide
  refine own_go (fun _ k => XS.ifYes X0.here hx rfl (pc0 := 1) (pc' := 15) rfl (hb hby own_d9_1) rfl (Jvm.Free.XT.i0_gt_t hc1) (by decide) (by decide) k) ?_
  show own_Go _ _ _ _ s₁ (mkF m 15 #[.val (.int (1 : Int32)), .unset] [])
  refine own_go (fun _ k => XS.bipush X0.here hx rfl (hb hby own_d9_15) k) ?_
  show own_Go _ _ _ _ s₁ (mkF m 17 #[.val (.int (1 : Int32)), .unset] [(.int (31 : Int32))])
  refine own_go (fun _ k => XS.istoreN X0.here hx rfl (hb hby own_d9_17) rfl (l' := #[.val (.int (1 : Int32)), .val (.int (31 : Int32))]) rfl k) ?_
  show own_Go _ _ _ _ s₁ (mkF m 18 #[.val (.int (1 : Int32)), .val (.int (31 : Int32))] [])
  refine own_go (fun _ k => XS.iloadN X0.here hx rfl (hb hby own_d9_18) rfl k) ?_
  show own_Go _ _ _ _ s₁ (mkF m 19 #[.val (.int (1 : Int32)), .val (.int (31 : Int32))] [(.int (1 : Int32))])
  refine own_go (fun _ k => X0.ldcwInt hx hown (mvT hZ (hw _ (List.mem_of_getElem? (i := 52) rfl))) (g := (mkF m 19 #[.val (.int (1 : Int32)), .val (.int (31 : Int32))] [(.int (1 : Int32))])) rfl (hb hby own_d9_19) _ k) ?_
  show own_Go _ _ _ _ s₁ (mkF m 22 #[.val (.int (1 : Int32)), .val (.int (31 : Int32))] [(.int (65536 : Int32)), (.int (1 : Int32))])
  have hc2 : (1 : Int32) < (65536 : Int32) := by decide
  refine own_go (fun _ k => XS.icmpYes X0.here hx rfl (pc0 := 22) (pc' := 33) rfl (hb hby own_d9_22) rfl (Jvm.Free.XT.ii_lt_t hc2) (by decide) (by decide) k) ?_
  show own_Go _ _ _ _ s₁ (mkF m 33 #[.val (.int (1 : Int32)), .val (.int (31 : Int32))] [])
  refine own_go (fun _ k => XS.iloadN X0.here hx rfl (hb hby own_d9_33) rfl k) ?_
  show own_Go _ _ _ _ s₁ (mkF m 34 #[.val (.int (1 : Int32)), .val (.int (31 : Int32))] [(.int (1 : Int32))])
  refine own_go (fun _ k => XS.sipush X0.here hx rfl (hb hby own_d9_34) k) ?_
  show own_Go _ _ _ _ s₁ (mkF m 37 #[.val (.int (1 : Int32)), .val (.int (31 : Int32))] [(.int (256 : Int32)), (.int (1 : Int32))])
  have hc3 : (1 : Int32) < (256 : Int32) := by decide
  refine own_go (fun _ k => XS.icmpYes X0.here hx rfl (pc0 := 37) (pc' := 48) rfl (hb hby own_d9_37) rfl (Jvm.Free.XT.ii_lt_t hc3) (by decide) (by decide) k) ?_
  show own_Go _ _ _ _ s₁ (mkF m 48 #[.val (.int (1 : Int32)), .val (.int (31 : Int32))] [])
  refine own_go (fun _ k => XS.iloadN X0.here hx rfl (hb hby own_d9_48) rfl k) ?_
  show own_Go _ _ _ _ s₁ (mkF m 49 #[.val (.int (1 : Int32)), .val (.int (31 : Int32))] [(.int (1 : Int32))])
  refine own_go (fun _ k => XS.bipush X0.here hx rfl (hb hby own_d9_49) k) ?_
  show own_Go _ _ _ _ s₁ (mkF m 51 #[.val (.int (1 : Int32)), .val (.int (31 : Int32))] [(.int (16 : Int32)), (.int (1 : Int32))])
  have hc4 : (1 : Int32) < (16 : Int32) := by decide
  refine own_go (fun _ k => XS.icmpYes X0.here hx rfl (pc0 := 51) (pc' := 61) rfl (hb hby own_d9_51) rfl (Jvm.Free.XT.ii_lt_t hc4) (by decide) (by decide) k) ?_
  show own_Go _ _ _ _ s₁ (mkF m 61 #[.val (.int (1 : Int32)), .val (.int (31 : Int32))] [])
  refine own_go (fun _ k => XS.iloadN X0.here hx rfl (hb hby own_d9_61) rfl k) ?_
  show own_Go _ _ _ _ s₁ (mkF m 62 #[.val (.int (1 : Int32)), .val (.int (31 : Int32))] [(.int (1 : Int32))])
  refine own_go (fun _ k => XS.iconst X0.here hx rfl (hb hby own_d9_62) k) ?_
  show own_Go _ _ _ _ s₁ (mkF m 63 #[.val (.int (1 : Int32)), .val (.int (31 : Int32))] [(.int (4 : Int32)), (.int (1 : Int32))])
  have hc5 : (1 : Int32) < (4 : Int32) := by decide
  refine own_go (fun _ k => XS.icmpYes X0.here hx rfl (pc0 := 63) (pc' := 73) rfl (hb hby own_d9_63) rfl (Jvm.Free.XT.ii_lt_t hc5) (by decide) (by decide) k) ?_
  show own_Go _ _ _ _ s₁ (mkF m 73 #[.val (.int (1 : Int32)), .val (.int (31 : Int32))] [])
  refine own_go (fun _ k => XS.iloadN X0.here hx rfl (hb hby own_d9_73) rfl k) ?_
  show own_Go _ _ _ _ s₁ (mkF m 74 #[.val (.int (1 : Int32)), .val (.int (31 : Int32))] [(.int (31 : Int32))])
  refine own_go (fun _ k => XS.iloadN X0.here hx rfl (hb hby own_d9_74) rfl k) ?_
  show own_Go _ _ _ _ s₁ (mkF m 75 #[.val (.int (1 : Int32)), .val (.int (31 : Int32))] [(.int (1 : Int32)), (.int (31 : Int32))])
  refine own_go (fun _ k => XS.iconst X0.here hx rfl (hb hby own_d9_75) k) ?_
  show own_Go _ _ _ _ s₁ (mkF m 76 #[.val (.int (1 : Int32)), .val (.int (31 : Int32))] [(.int (1 : Int32)), (.int (1 : Int32)), (.int (31 : Int32))])
  refine own_go (fun _ k => XS.iushr X0.here hx rfl (hb hby own_d9_76) rfl k) ?_
  show own_Go _ _ _ _ s₁ (mkF m 77 #[.val (.int (1 : Int32)), .val (.int (31 : Int32))] [(.int (0 : Int32)), (.int (31 : Int32))])
  refine own_go (fun _ k => XS.isub X0.here hx rfl (hb hby own_d9_77) rfl k) ?_
  show own_Go _ _ _ _ s₁ (mkF m 78 #[.val (.int (1 : Int32)), .val (.int (31 : Int32))] [(.int (31 : Int32))])
  obtain ⟨fs, hr, hrun, hended, hW, hsame⟩ := X0.leave (v := some (.int (31 : Int32))) (fun h => by rw [Bd.returns] at h; cases h)
  refine ⟨_, _, retOut X0 hx Bd.returns rfl (Or.inl ⟨rfl, Or.inl rfl, _, rfl⟩) (hb hby own_d9_78) hr, hrun, hended, _, _, rfl, ?_, ⟨_, rfl⟩, hW, hsame.mono (by decide) (by decide)⟩
  show own_Q9_1 Z  h0 n0 _ s₁.heap _
  rw [e0]
  exact ⟨rfl, N0, rfl⟩
theorem own_d10_0 : decode jdk_29_method_65_code 0 = .ok (.iload_n 0, 1) := by decide +kernel
theorem own_d10_1 : decode jdk_29_method_65_code 1 = .ok (.iload_n 1, 1) := by decide +kernel
theorem own_d10_2 : decode jdk_29_method_65_code 2 = .ok (.if_icmp .lt 7, 3) := by decide +kernel
theorem own_d10_5 : decode jdk_29_method_65_code 5 = .ok (.iload_n 0, 1) := by decide +kernel
theorem own_d10_6 : decode jdk_29_method_65_code 6 = .ok (.goto 4, 3) := by decide +kernel
theorem own_d10_10 : decode jdk_29_method_65_code 10 = .ok (.ireturn, 1) := by decide +kernel
theorem own_ef_own_rm10_0 (m : MethodId)  : entryFrame m #[(.int (1 : Int32)), (.int (0 : Int32))] 2 = mkF m 0 #[.val (.int (1 : Int32)), .val (.int (0 : Int32))] [] := by first | (simp [entryFrame, mkF, argsToLocals, Value.category]; done) | rfl
def own_Q10_0 (Z : State)  (h0 : Heap) (n0 : Nat) (v : Option Value) (h : Heap) (L : List Loc) : Prop := v = some (.int (1 : Int32)) ∧ Fr n0 L ∧ h = h0
set_option maxRecDepth 65536 in
set_option maxHeartbeats 40000000 in
theorem own_rm10_0 (l : Launch) (Z : State) (a0 : Array Value) (hw : ∀ d ∈ tables_1, d.before a0 Z = true) (ws : List Jvm.Cond)  (h0 : Heap) (n0 : Nat) (Z0 : n0 ≤ h0.size) :
    MetFree l (⟨"java/lang/Math", "max", "(II)I"⟩ : MethodName) (head1 (Jvm.Cond.code (⟨"java/lang/Math", "max", "(II)I"⟩ : MethodName) jdk_29_method_65_code 2 (some .int) :: ws) ({ frames := 0, cells := 0, slots := 0, locals := 0 } : Room)) (fun a U => a = #[(.int (1 : Int32)), (.int (0 : Int32))] ∧ Z.Warmed39 U.vm ∧ U.heap = h0) (fun _ _ _ _ _ => True) (fun _ U o U' => ∃ v L, o = .returned v ∧ own_Q10_0 Z  h0 n0 v U'.heap L ∧ FrameEnd U o U' L ({ frames := 0, cells := 0, slots := 0, locals := 0 } : Room).cells ({ frames := 0, cells := 0, slots := 0, locals := 0 } : Room).slots) := by
  refine MetFree.of_bodySF (Jvm.Free.JP.mathPlain rfl (by decide +kernel)) hisR ?_
  intro p e s m args below meth c s₁ Bd hml0 hP hK
  obtain ⟨rfl, hZ, hh⟩ := hP
  have hx := Bd.exec
  have hby := Bd.bytes
  have hml : c.maxLocals = 2 := hml0
  have hown : s.vm.findClass "java/lang/Math" = some m.cls := findClass_of_methodNamed Bd.named
  have hnm := (name_of_methodNamed Bd.named Bd.method).1
  have X0 : Stand p l e ({ frames := 0, cells := 0, slots := 0, locals := 0 } : Room) s m #[(.int (1 : Int32)), (.int (0 : Int32))] below meth c s₁ [] 0 0 := Stand.of_body Bd
  have e0 : s₁.heap = h0 := by rw [← hh, Bd.state]; rfl
  have N0 := Fr.nil n0
  have z0 : n0 ≤ h0.size := Z0
  show own_Go p.tables e below (fun t o => t.status = .running ∧ Ended t below o ∧ ∃ v L, o = .returned v ∧ own_Q10_0 Z  h0 n0 v t.heap L ∧ FrameEnd s o t L ({ frames := 0, cells := 0, slots := 0, locals := 0 } : Room).cells ({ frames := 0, cells := 0, slots := 0, locals := 0 } : Room).slots) s₁ (entryFrame m #[(.int (1 : Int32)), (.int (0 : Int32))] 2)
  rw [own_ef_own_rm10_0 m ]
  show own_Go _ _ _ _ s₁ (mkF m 0 #[.val (.int (1 : Int32)), .val (.int (0 : Int32))] [])
  refine own_go (fun _ k => XS.iloadN X0.here hx rfl (hb hby own_d10_0) rfl k) ?_
  show own_Go _ _ _ _ s₁ (mkF m 1 #[.val (.int (1 : Int32)), .val (.int (0 : Int32))] [(.int (1 : Int32))])
  refine own_go (fun _ k => XS.iloadN X0.here hx rfl (hb hby own_d10_1) rfl k) ?_
  show own_Go _ _ _ _ s₁ (mkF m 2 #[.val (.int (1 : Int32)), .val (.int (0 : Int32))] [(.int (0 : Int32)), (.int (1 : Int32))])
  have hc1 : ¬ ((1 : Int32) < (0 : Int32)) := by decide
  refine own_go (fun _ k => XS.icmpNo X0.here hx rfl (hb hby own_d10_2) rfl (Jvm.Free.XT.ii_lt_f hc1) k) ?_
  show own_Go _ _ _ _ s₁ (mkF m 5 #[.val (.int (1 : Int32)), .val (.int (0 : Int32))] [])
  refine own_go (fun _ k => XS.iloadN X0.here hx rfl (hb hby own_d10_5) rfl k) ?_
  show own_Go _ _ _ _ s₁ (mkF m 6 #[.val (.int (1 : Int32)), .val (.int (0 : Int32))] [(.int (1 : Int32))])
  refine own_go (fun _ k => XS.goto X0.here hx rfl (pc0 := 6) (pc' := 10) rfl (hb hby own_d10_6) (by decide) (by decide) k) ?_
  show own_Go _ _ _ _ s₁ (mkF m 10 #[.val (.int (1 : Int32)), .val (.int (0 : Int32))] [(.int (1 : Int32))])
  obtain ⟨fs, hr, hrun, hended, hW, hsame⟩ := X0.leave (v := some (.int (1 : Int32))) (fun h => by rw [Bd.returns] at h; cases h)
  refine ⟨_, _, retOut X0 hx Bd.returns rfl (Or.inl ⟨rfl, Or.inl rfl, _, rfl⟩) (hb hby own_d10_10) hr, hrun, hended, _, _, rfl, ?_, ⟨_, rfl⟩, hW, hsame.mono (by decide) (by decide)⟩
  show own_Q10_0 Z  h0 n0 _ s₁.heap _
  rw [e0]
  exact ⟨rfl, N0, rfl⟩
theorem own_ef_own_rm10_1 (m : MethodId)  : entryFrame m #[(.int (1 : Int32)), (.int (1 : Int32))] 2 = mkF m 0 #[.val (.int (1 : Int32)), .val (.int (1 : Int32))] [] := by first | (simp [entryFrame, mkF, argsToLocals, Value.category]; done) | rfl
def own_Q10_1 (Z : State)  (h0 : Heap) (n0 : Nat) (v : Option Value) (h : Heap) (L : List Loc) : Prop := v = some (.int (1 : Int32)) ∧ Fr n0 L ∧ h = h0
set_option maxRecDepth 65536 in
set_option maxHeartbeats 40000000 in
theorem own_rm10_1 (l : Launch) (Z : State) (a0 : Array Value) (hw : ∀ d ∈ tables_1, d.before a0 Z = true) (ws : List Jvm.Cond)  (h0 : Heap) (n0 : Nat) (Z0 : n0 ≤ h0.size) :
    MetFree l (⟨"java/lang/Math", "max", "(II)I"⟩ : MethodName) (head1 (Jvm.Cond.code (⟨"java/lang/Math", "max", "(II)I"⟩ : MethodName) jdk_29_method_65_code 2 (some .int) :: ws) ({ frames := 0, cells := 0, slots := 0, locals := 0 } : Room)) (fun a U => a = #[(.int (1 : Int32)), (.int (1 : Int32))] ∧ Z.Warmed39 U.vm ∧ U.heap = h0) (fun _ _ _ _ _ => True) (fun _ U o U' => ∃ v L, o = .returned v ∧ own_Q10_1 Z  h0 n0 v U'.heap L ∧ FrameEnd U o U' L ({ frames := 0, cells := 0, slots := 0, locals := 0 } : Room).cells ({ frames := 0, cells := 0, slots := 0, locals := 0 } : Room).slots) := by
  refine MetFree.of_bodySF (Jvm.Free.JP.mathPlain rfl (by decide +kernel)) hisR ?_
  intro p e s m args below meth c s₁ Bd hml0 hP hK
  obtain ⟨rfl, hZ, hh⟩ := hP
  have hx := Bd.exec
  have hby := Bd.bytes
  have hml : c.maxLocals = 2 := hml0
  have hown : s.vm.findClass "java/lang/Math" = some m.cls := findClass_of_methodNamed Bd.named
  have hnm := (name_of_methodNamed Bd.named Bd.method).1
  have X0 : Stand p l e ({ frames := 0, cells := 0, slots := 0, locals := 0 } : Room) s m #[(.int (1 : Int32)), (.int (1 : Int32))] below meth c s₁ [] 0 0 := Stand.of_body Bd
  have e0 : s₁.heap = h0 := by rw [← hh, Bd.state]; rfl
  have N0 := Fr.nil n0
  have z0 : n0 ≤ h0.size := Z0
  show own_Go p.tables e below (fun t o => t.status = .running ∧ Ended t below o ∧ ∃ v L, o = .returned v ∧ own_Q10_1 Z  h0 n0 v t.heap L ∧ FrameEnd s o t L ({ frames := 0, cells := 0, slots := 0, locals := 0 } : Room).cells ({ frames := 0, cells := 0, slots := 0, locals := 0 } : Room).slots) s₁ (entryFrame m #[(.int (1 : Int32)), (.int (1 : Int32))] 2)
  rw [own_ef_own_rm10_1 m ]
  show own_Go _ _ _ _ s₁ (mkF m 0 #[.val (.int (1 : Int32)), .val (.int (1 : Int32))] [])
  refine own_go (fun _ k => XS.iloadN X0.here hx rfl (hb hby own_d10_0) rfl k) ?_
  show own_Go _ _ _ _ s₁ (mkF m 1 #[.val (.int (1 : Int32)), .val (.int (1 : Int32))] [(.int (1 : Int32))])
  refine own_go (fun _ k => XS.iloadN X0.here hx rfl (hb hby own_d10_1) rfl k) ?_
  show own_Go _ _ _ _ s₁ (mkF m 2 #[.val (.int (1 : Int32)), .val (.int (1 : Int32))] [(.int (1 : Int32)), (.int (1 : Int32))])
  have hc1 : ¬ ((1 : Int32) < (1 : Int32)) := by decide
  refine own_go (fun _ k => XS.icmpNo X0.here hx rfl (hb hby own_d10_2) rfl (Jvm.Free.XT.ii_lt_f hc1) k) ?_
  show own_Go _ _ _ _ s₁ (mkF m 5 #[.val (.int (1 : Int32)), .val (.int (1 : Int32))] [])
  refine own_go (fun _ k => XS.iloadN X0.here hx rfl (hb hby own_d10_5) rfl k) ?_
  show own_Go _ _ _ _ s₁ (mkF m 6 #[.val (.int (1 : Int32)), .val (.int (1 : Int32))] [(.int (1 : Int32))])
  refine own_go (fun _ k => XS.goto X0.here hx rfl (pc0 := 6) (pc' := 10) rfl (hb hby own_d10_6) (by decide) (by decide) k) ?_
  show own_Go _ _ _ _ s₁ (mkF m 10 #[.val (.int (1 : Int32)), .val (.int (1 : Int32))] [(.int (1 : Int32))])
  obtain ⟨fs, hr, hrun, hended, hW, hsame⟩ := X0.leave (v := some (.int (1 : Int32))) (fun h => by rw [Bd.returns] at h; cases h)
  refine ⟨_, _, retOut X0 hx Bd.returns rfl (Or.inl ⟨rfl, Or.inl rfl, _, rfl⟩) (hb hby own_d10_10) hr, hrun, hended, _, _, rfl, ?_, ⟨_, rfl⟩, hW, hsame.mono (by decide) (by decide)⟩
  show own_Q10_1 Z  h0 n0 _ s₁.heap _
  rw [e0]
  exact ⟨rfl, N0, rfl⟩
theorem own_d8_0 : decode prog_16_method_9_code 0 = .ok (.iload_n 0, 1) := by decide +kernel
theorem own_d8_1 : decode prog_16_method_9_code 1 = .ok (.iconst 1, 1) := by decide +kernel
theorem own_d8_2 : decode prog_16_method_9_code 2 = .ok (.ishl, 1) := by decide +kernel
theorem own_d8_3 : decode prog_16_method_9_code 3 = .ok (.iload_n 0, 1) := by decide +kernel
theorem own_d8_4 : decode prog_16_method_9_code 4 = .ok (.bipush 31, 2) := by decide +kernel
theorem own_d8_6 : decode prog_16_method_9_code 6 = .ok (.ishr, 1) := by decide +kernel
theorem own_d8_7 : decode prog_16_method_9_code 7 = .ok (.ixor, 1) := by decide +kernel
theorem own_d8_8 : decode prog_16_method_9_code 8 = .ok (.istore_n 1, 1) := by decide +kernel
theorem own_d8_9 : decode prog_16_method_9_code 9 = .ok (.bipush 32, 2) := by decide +kernel
theorem own_d8_11 : decode prog_16_method_9_code 11 = .ok (.iload_n 1, 1) := by decide +kernel
theorem own_d8_12 : decode prog_16_method_9_code 12 = .ok (.invokestatic 45, 3) := by decide +kernel
theorem own_d8_15 : decode prog_16_method_9_code 15 = .ok (.isub, 1) := by decide +kernel
theorem own_d8_16 : decode prog_16_method_9_code 16 = .ok (.istore_n 2, 1) := by decide +kernel
theorem own_d8_17 : decode prog_16_method_9_code 17 = .ok (.iconst 1, 1) := by decide +kernel
theorem own_d8_18 : decode prog_16_method_9_code 18 = .ok (.iload_n 2, 1) := by decide +kernel
theorem own_d8_19 : decode prog_16_method_9_code 19 = .ok (.bipush 6, 2) := by decide +kernel
theorem own_d8_21 : decode prog_16_method_9_code 21 = .ok (.iadd, 1) := by decide +kernel
theorem own_d8_22 : decode prog_16_method_9_code 22 = .ok (.bipush 7, 2) := by decide +kernel
theorem own_d8_24 : decode prog_16_method_9_code 24 = .ok (.idiv, 1) := by decide +kernel
theorem own_d8_25 : decode prog_16_method_9_code 25 = .ok (.invokestatic 48, 3) := by decide +kernel
theorem own_d8_28 : decode prog_16_method_9_code 28 = .ok (.ireturn, 1) := by decide +kernel
theorem own_ef_own_rm8_0 (m : MethodId)  : entryFrame m #[(.int (0 : Int32))] 3 = mkF m 0 #[.val (.int (0 : Int32)), .unset, .unset] [] := by first | (simp [entryFrame, mkF, argsToLocals, Value.category]; done) | rfl
def own_Q8_0 (Z : State)  (h0 : Heap) (n0 : Nat) (v : Option Value) (h : Heap) (L : List Loc) : Prop := v = some (.int (1 : Int32)) ∧ Fr n0 L ∧ h = h0
set_option maxRecDepth 65536 in
set_option maxHeartbeats 40000000 in
theorem own_rm8_0 (l : Launch) (Z : State) (a0 : Array Value) (hw : ∀ d ∈ tables_1, d.before a0 Z = true) (ws : List Jvm.Cond)  (h0 : Heap) (n0 : Nat) (Z0 : n0 ≤ h0.size) :
    MetFree l (⟨"com/example/fencepost/fencepost/connector/RecordLimit", "varintSize", "(I)I"⟩ : MethodName) (head1 (Jvm.Cond.code (⟨"com/example/fencepost/fencepost/connector/RecordLimit", "varintSize", "(I)I"⟩ : MethodName) prog_16_method_9_code 3 (some .int) :: ws) ({ frames := 1, cells := 0, slots := 0, locals := 14 } : Room)) (fun a U => a = #[(.int (0 : Int32))] ∧ Z.Warmed39 U.vm ∧ U.heap = h0) (fun _ _ _ _ _ => True) (fun _ U o U' => ∃ v L, o = .returned v ∧ own_Q8_0 Z  h0 n0 v U'.heap L ∧ FrameEnd U o U' L ({ frames := 1, cells := 0, slots := 0, locals := 14 } : Room).cells ({ frames := 1, cells := 0, slots := 0, locals := 14 } : Room).slots) := by
  refine MetFree.of_bodySF (plainFor_of_name own_pn1) hisR ?_
  intro p e s m args below meth c s₁ Bd hml0 hP hK
  obtain ⟨rfl, hZ, hh⟩ := hP
  have hx := Bd.exec
  have hby := Bd.bytes
  have hml : c.maxLocals = 3 := hml0
  have hown : s.vm.findClass "com/example/fencepost/fencepost/connector/RecordLimit" = some m.cls := findClass_of_methodNamed Bd.named
  have hnm := (name_of_methodNamed Bd.named Bd.method).1
  have X0 : Stand p l e ({ frames := 1, cells := 0, slots := 0, locals := 14 } : Room) s m #[(.int (0 : Int32))] below meth c s₁ [] 0 0 := Stand.of_body Bd
  have e0 : s₁.heap = h0 := by rw [← hh, Bd.state]; rfl
  have N0 := Fr.nil n0
  have z0 : n0 ≤ h0.size := Z0
  show own_Go p.tables e below (fun t o => t.status = .running ∧ Ended t below o ∧ ∃ v L, o = .returned v ∧ own_Q8_0 Z  h0 n0 v t.heap L ∧ FrameEnd s o t L ({ frames := 1, cells := 0, slots := 0, locals := 14 } : Room).cells ({ frames := 1, cells := 0, slots := 0, locals := 14 } : Room).slots) s₁ (entryFrame m #[(.int (0 : Int32))] 3)
  rw [own_ef_own_rm8_0 m ]
  show own_Go _ _ _ _ s₁ (mkF m 0 #[.val (.int (0 : Int32)), .unset, .unset] [])
  refine own_go (fun _ k => XS.iloadN X0.here hx rfl (hb hby own_d8_0) rfl k) ?_
  show own_Go _ _ _ _ s₁ (mkF m 1 #[.val (.int (0 : Int32)), .unset, .unset] [(.int (0 : Int32))])
  refine own_go (fun _ k => XS.iconst X0.here hx rfl (hb hby own_d8_1) k) ?_
  show own_Go _ _ _ _ s₁ (mkF m 2 #[.val (.int (0 : Int32)), .unset, .unset] [(.int (1 : Int32)), (.int (0 : Int32))])
  refine own_go (fun _ k => XS.ishl X0.here hx rfl (hb hby own_d8_2) rfl k) ?_
  show own_Go _ _ _ _ s₁ (mkF m 3 #[.val (.int (0 : Int32)), .unset, .unset] [(.int (0 : Int32))])
  refine own_go (fun _ k => XS.iloadN X0.here hx rfl (hb hby own_d8_3) rfl k) ?_
  show own_Go _ _ _ _ s₁ (mkF m 4 #[.val (.int (0 : Int32)), .unset, .unset] [(.int (0 : Int32)), (.int (0 : Int32))])
  refine own_go (fun _ k => XS.bipush X0.here hx rfl (hb hby own_d8_4) k) ?_
  show own_Go _ _ _ _ s₁ (mkF m 6 #[.val (.int (0 : Int32)), .unset, .unset] [(.int (31 : Int32)), (.int (0 : Int32)), (.int (0 : Int32))])
  refine own_go (fun _ k => XS.ishr X0.here hx rfl (hb hby own_d8_6) rfl k) ?_
  show own_Go _ _ _ _ s₁ (mkF m 7 #[.val (.int (0 : Int32)), .unset, .unset] [(.int (0 : Int32)), (.int (0 : Int32))])
  refine own_go (fun _ k => XS.ixor X0.here hx rfl (hb hby own_d8_7) rfl k) ?_
  show own_Go _ _ _ _ s₁ (mkF m 8 #[.val (.int (0 : Int32)), .unset, .unset] [(.int (0 : Int32))])
  refine own_go (fun _ k => XS.istoreN X0.here hx rfl (hb hby own_d8_8) rfl (l' := #[.val (.int (0 : Int32)), .val (.int (0 : Int32)), .unset]) rfl k) ?_
  show own_Go _ _ _ _ s₁ (mkF m 9 #[.val (.int (0 : Int32)), .val (.int (0 : Int32)), .unset] [])
  refine own_go (fun _ k => XS.bipush X0.here hx rfl (hb hby own_d8_9) k) ?_
  show own_Go _ _ _ _ s₁ (mkF m 11 #[.val (.int (0 : Int32)), .val (.int (0 : Int32)), .unset] [(.int (32 : Int32))])
  refine own_go (fun _ k => XS.iloadN X0.here hx rfl (hb hby own_d8_11) rfl k) ?_
  show own_Go _ _ _ _ s₁ (mkF m 12 #[.val (.int (0 : Int32)), .val (.int (0 : Int32)), .unset] [(.int (0 : Int32)), (.int (32 : Int32))])
  obtain ⟨_, _, ⟨T1, L1, k1, n1⟩, -, X1, ⟨Lc1, hQ1, l1, y1, z1⟩, st1⟩ := Jvm.LawKit.callS X0 hx (y := (⟨"java/lang/Integer", "numberOfLeadingZeros", "(I)I"⟩ : MethodName)) hown (mvT hZ (hw _ (List.mem_of_getElem? (i := 48) rfl))) (mvT hZ (hw _ (List.mem_of_getElem? (i := 49) rfl))) (mvT hZ (hw _ (List.mem_of_getElem? (i := 50) rfl))) (mvT hZ (hw _ (List.mem_of_getElem? (i := 51) rfl))) (by decide) (backOf (W := 1) (own_rm9_0 l Z a0 hw []   h0 n0 (by omega) ) hZ (hw _ (List.mem_of_getElem? (i := 51) rfl)) (hw _ (List.mem_of_getElem? (i := 50) rfl)) (by decide) (by decide)) (g := (mkF m 12 #[.val (.int (0 : Int32)), .val (.int (0 : Int32)), .unset] [(.int (0 : Int32)), (.int (32 : Int32))])) rfl (by rw [hml]; rfl) (argsL := [(.int (0 : Int32))]) (rest := [(.int (32 : Int32))]) (lenOf own_pd0 rfl) rfl (by show 2 * 0 + _ ≤ _; exact Nat.le_of_eq rfl) (hb hby own_d8_12) (fun _ _ => ⟨rfl, e0, (by decide : 0 + 0 ≤ _), (by decide : 0 + 0 ≤ _)⟩)
  dsimp only [Pt.U, Pt.locs, Pt.cells, Pt.slots] at X1 l1 y1 z1 st1 hQ1
  have y1 : k1 = 0 := y1
  have z1 : n1 = 0 := z1
  obtain ⟨rfl, N1q, e1⟩ := hQ1
  have N1 : Fr n0 L1 := by rw [l1]; exact Fr.app N0 N1q
  refine own_go (fun _ k => st1 _ k) ?_
  show own_Go _ _ _ _ T1 (mkF m 15 #[.val (.int (0 : Int32)), .val (.int (0 : Int32)), .unset] [(.int (32 : Int32)), (.int (32 : Int32))])
  refine own_go (fun _ k => XS.isub X1.here hx rfl (hb hby own_d8_15) rfl k) ?_
  show own_Go _ _ _ _ T1 (mkF m 16 #[.val (.int (0 : Int32)), .val (.int (0 : Int32)), .unset] [(.int (0 : Int32))])
  refine own_go (fun _ k => XS.istoreN X1.here hx rfl (hb hby own_d8_16) rfl (l' := #[.val (.int (0 : Int32)), .val (.int (0 : Int32)), .val (.int (0 : Int32))]) rfl k) ?_
  show own_Go _ _ _ _ T1 (mkF m 17 #[.val (.int (0 : Int32)), .val (.int (0 : Int32)), .val (.int (0 : Int32))] [])
  refine own_go (fun _ k => XS.iconst X1.here hx rfl (hb hby own_d8_17) k) ?_
  show own_Go _ _ _ _ T1 (mkF m 18 #[.val (.int (0 : Int32)), .val (.int (0 : Int32)), .val (.int (0 : Int32))] [(.int (1 : Int32))])
  refine own_go (fun _ k => XS.iloadN X1.here hx rfl (hb hby own_d8_18) rfl k) ?_
  show own_Go _ _ _ _ T1 (mkF m 19 #[.val (.int (0 : Int32)), .val (.int (0 : Int32)), .val (.int (0 : Int32))] [(.int (0 : Int32)), (.int (1 : Int32))])
  refine own_go (fun _ k => XS.bipush X1.here hx rfl (hb hby own_d8_19) k) ?_
  show own_Go _ _ _ _ T1 (mkF m 21 #[.val (.int (0 : Int32)), .val (.int (0 : Int32)), .val (.int (0 : Int32))] [(.int (6 : Int32)), (.int (0 : Int32)), (.int (1 : Int32))])
  refine own_go (fun _ k => XS.iadd X1.here hx rfl (hb hby own_d8_21) rfl k) ?_
  show own_Go _ _ _ _ T1 (mkF m 22 #[.val (.int (0 : Int32)), .val (.int (0 : Int32)), .val (.int (0 : Int32))] [(.int (6 : Int32)), (.int (1 : Int32))])
  refine own_go (fun _ k => XS.bipush X1.here hx rfl (hb hby own_d8_22) k) ?_
  show own_Go _ _ _ _ T1 (mkF m 24 #[.val (.int (0 : Int32)), .val (.int (0 : Int32)), .val (.int (0 : Int32))] [(.int (7 : Int32)), (.int (6 : Int32)), (.int (1 : Int32))])
  have nz2 : (7 : Int32) ≠ 0 := by decide
  refine own_go (fun _ k => XS.idiv X1.here hx rfl (hb hby own_d8_24) rfl nz2 k) ?_
  show own_Go _ _ _ _ T1 (mkF m 25 #[.val (.int (0 : Int32)), .val (.int (0 : Int32)), .val (.int (0 : Int32))] [(.int (0 : Int32)), (.int (1 : Int32))])
  obtain ⟨_, _, ⟨T3, L3, k3, n3⟩, -, X3, ⟨Lc3, hQ3, l3, y3, z3⟩, st3⟩ := Jvm.LawKit.callS X1 hx (y := (⟨"java/lang/Math", "max", "(II)I"⟩ : MethodName)) hown (mvT hZ (hw _ (List.mem_of_getElem? (i := 53) rfl))) (mvT hZ (hw _ (List.mem_of_getElem? (i := 54) rfl))) (mvT hZ (hw _ (List.mem_of_getElem? (i := 55) rfl))) (mvT hZ (hw _ (List.mem_of_getElem? (i := 56) rfl))) (by decide) (backOf (W := 0) (own_rm10_0 l Z a0 hw []   h0 n0 (by omega) ) hZ (hw _ (List.mem_of_getElem? (i := 56) rfl)) (hw _ (List.mem_of_getElem? (i := 55) rfl)) (by decide) (by decide)) (g := (mkF m 25 #[.val (.int (0 : Int32)), .val (.int (0 : Int32)), .val (.int (0 : Int32))] [(.int (0 : Int32)), (.int (1 : Int32))])) rfl (by rw [hml]; rfl) (argsL := [(.int (1 : Int32)), (.int (0 : Int32))]) (rest := []) (lenOf own_pd1 rfl) rfl (by show 2 * 0 + _ ≤ _; exact Nat.le_of_eq rfl) (hb hby own_d8_25) (fun _ _ => ⟨rfl, e1, (by show k1 + _ ≤ _; rw [y1]; decide), (by show n1 + _ ≤ _; rw [z1]; decide)⟩)
  dsimp only [Pt.U, Pt.locs, Pt.cells, Pt.slots] at X3 l3 y3 z3 st3 hQ3
  have y3 : k3 = 0 := own_addeq y3 (congrArg (fun q => q) y1) rfl
  have z3 : n3 = 0 := own_addeq z3 (congrArg (fun q => q) z1) rfl
  obtain ⟨rfl, N3q, e3⟩ := hQ3
  have N3 : Fr n0 L3 := by rw [l3]; exact Fr.app N1 N3q
  refine own_go (fun _ k => st3 _ k) ?_
  show own_Go _ _ _ _ T3 (mkF m 28 #[.val (.int (0 : Int32)), .val (.int (0 : Int32)), .val (.int (0 : Int32))] [(.int (1 : Int32))])
  obtain ⟨fs, hr, hrun, hended, hW, hsame⟩ := X3.leave (v := some (.int (1 : Int32))) (fun h => by rw [Bd.returns] at h; cases h)
  refine ⟨_, _, retOut X3 hx Bd.returns rfl (Or.inl ⟨rfl, Or.inl rfl, _, rfl⟩) (hb hby own_d8_28) hr, hrun, hended, _, _, rfl, ?_, ⟨_, rfl⟩, hW, hsame.mono (by rw [y3]; decide) (by rw [z3]; decide)⟩
  show own_Q8_0 Z  h0 n0 _ T3.heap _
  rw [e3]
  exact ⟨rfl, N3, rfl⟩
theorem own_ef_own_rm8_m (m : MethodId)  : entryFrame m #[(.int (-1 : Int32))] 3 = mkF m 0 #[.val (.int (-1 : Int32)), .unset, .unset] [] := by first | (simp [entryFrame, mkF, argsToLocals, Value.category]; done) | rfl
def own_Q8_m (Z : State)  (h0 : Heap) (n0 : Nat) (v : Option Value) (h : Heap) (L : List Loc) : Prop := v = some (.int (1 : Int32)) ∧ Fr n0 L ∧ h = h0
set_option maxRecDepth 65536 in
set_option maxHeartbeats 40000000 in
theorem own_rm8_m (l : Launch) (Z : State) (a0 : Array Value) (hw : ∀ d ∈ tables_1, d.before a0 Z = true) (ws : List Jvm.Cond)  (h0 : Heap) (n0 : Nat) (Z0 : n0 ≤ h0.size) :
    MetFree l (⟨"com/example/fencepost/fencepost/connector/RecordLimit", "varintSize", "(I)I"⟩ : MethodName) (head1 (Jvm.Cond.code (⟨"com/example/fencepost/fencepost/connector/RecordLimit", "varintSize", "(I)I"⟩ : MethodName) prog_16_method_9_code 3 (some .int) :: ws) ({ frames := 1, cells := 0, slots := 0, locals := 14 } : Room)) (fun a U => a = #[(.int (-1 : Int32))] ∧ Z.Warmed39 U.vm ∧ U.heap = h0) (fun _ _ _ _ _ => True) (fun _ U o U' => ∃ v L, o = .returned v ∧ own_Q8_m Z  h0 n0 v U'.heap L ∧ FrameEnd U o U' L ({ frames := 1, cells := 0, slots := 0, locals := 14 } : Room).cells ({ frames := 1, cells := 0, slots := 0, locals := 14 } : Room).slots) := by
  refine MetFree.of_bodySF (plainFor_of_name own_pn1) hisR ?_
  intro p e s m args below meth c s₁ Bd hml0 hP hK
  obtain ⟨rfl, hZ, hh⟩ := hP
  have hx := Bd.exec
  have hby := Bd.bytes
  have hml : c.maxLocals = 3 := hml0
  have hown : s.vm.findClass "com/example/fencepost/fencepost/connector/RecordLimit" = some m.cls := findClass_of_methodNamed Bd.named
  have hnm := (name_of_methodNamed Bd.named Bd.method).1
  have X0 : Stand p l e ({ frames := 1, cells := 0, slots := 0, locals := 14 } : Room) s m #[(.int (-1 : Int32))] below meth c s₁ [] 0 0 := Stand.of_body Bd
  have e0 : s₁.heap = h0 := by rw [← hh, Bd.state]; rfl
  have N0 := Fr.nil n0
  have z0 : n0 ≤ h0.size := Z0
  show own_Go p.tables e below (fun t o => t.status = .running ∧ Ended t below o ∧ ∃ v L, o = .returned v ∧ own_Q8_m Z  h0 n0 v t.heap L ∧ FrameEnd s o t L ({ frames := 1, cells := 0, slots := 0, locals := 14 } : Room).cells ({ frames := 1, cells := 0, slots := 0, locals := 14 } : Room).slots) s₁ (entryFrame m #[(.int (-1 : Int32))] 3)
  rw [own_ef_own_rm8_m m ]
  show own_Go _ _ _ _ s₁ (mkF m 0 #[.val (.int (-1 : Int32)), .unset, .unset] [])
  refine own_go (fun _ k => XS.iloadN X0.here hx rfl (hb hby own_d8_0) rfl k) ?_
  show own_Go _ _ _ _ s₁ (mkF m 1 #[.val (.int (-1 : Int32)), .unset, .unset] [(.int (-1 : Int32))])
  refine own_go (fun _ k => XS.iconst X0.here hx rfl (hb hby own_d8_1) k) ?_
  show own_Go _ _ _ _ s₁ (mkF m 2 #[.val (.int (-1 : Int32)), .unset, .unset] [(.int (1 : Int32)), (.int (-1 : Int32))])
  refine own_go (fun _ k => XS.ishl X0.here hx rfl (hb hby own_d8_2) rfl k) ?_
  show own_Go _ _ _ _ s₁ (mkF m 3 #[.val (.int (-1 : Int32)), .unset, .unset] [(.int (-2 : Int32))])
  refine own_go (fun _ k => XS.iloadN X0.here hx rfl (hb hby own_d8_3) rfl k) ?_
  show own_Go _ _ _ _ s₁ (mkF m 4 #[.val (.int (-1 : Int32)), .unset, .unset] [(.int (-1 : Int32)), (.int (-2 : Int32))])
  refine own_go (fun _ k => XS.bipush X0.here hx rfl (hb hby own_d8_4) k) ?_
  show own_Go _ _ _ _ s₁ (mkF m 6 #[.val (.int (-1 : Int32)), .unset, .unset] [(.int (31 : Int32)), (.int (-1 : Int32)), (.int (-2 : Int32))])
  refine own_go (fun _ k => XS.ishr X0.here hx rfl (hb hby own_d8_6) rfl k) ?_
  show own_Go _ _ _ _ s₁ (mkF m 7 #[.val (.int (-1 : Int32)), .unset, .unset] [(.int (-1 : Int32)), (.int (-2 : Int32))])
  refine own_go (fun _ k => XS.ixor X0.here hx rfl (hb hby own_d8_7) rfl k) ?_
  show own_Go _ _ _ _ s₁ (mkF m 8 #[.val (.int (-1 : Int32)), .unset, .unset] [(.int (1 : Int32))])
  refine own_go (fun _ k => XS.istoreN X0.here hx rfl (hb hby own_d8_8) rfl (l' := #[.val (.int (-1 : Int32)), .val (.int (1 : Int32)), .unset]) rfl k) ?_
  show own_Go _ _ _ _ s₁ (mkF m 9 #[.val (.int (-1 : Int32)), .val (.int (1 : Int32)), .unset] [])
  refine own_go (fun _ k => XS.bipush X0.here hx rfl (hb hby own_d8_9) k) ?_
  show own_Go _ _ _ _ s₁ (mkF m 11 #[.val (.int (-1 : Int32)), .val (.int (1 : Int32)), .unset] [(.int (32 : Int32))])
  refine own_go (fun _ k => XS.iloadN X0.here hx rfl (hb hby own_d8_11) rfl k) ?_
  show own_Go _ _ _ _ s₁ (mkF m 12 #[.val (.int (-1 : Int32)), .val (.int (1 : Int32)), .unset] [(.int (1 : Int32)), (.int (32 : Int32))])
  obtain ⟨_, _, ⟨T1, L1, k1, n1⟩, -, X1, ⟨Lc1, hQ1, l1, y1, z1⟩, st1⟩ := Jvm.LawKit.callS X0 hx (y := (⟨"java/lang/Integer", "numberOfLeadingZeros", "(I)I"⟩ : MethodName)) hown (mvT hZ (hw _ (List.mem_of_getElem? (i := 48) rfl))) (mvT hZ (hw _ (List.mem_of_getElem? (i := 49) rfl))) (mvT hZ (hw _ (List.mem_of_getElem? (i := 50) rfl))) (mvT hZ (hw _ (List.mem_of_getElem? (i := 51) rfl))) (by decide) (backOf (W := 1) (own_rm9_1 l Z a0 hw []   h0 n0 (by omega) ) hZ (hw _ (List.mem_of_getElem? (i := 51) rfl)) (hw _ (List.mem_of_getElem? (i := 50) rfl)) (by decide) (by decide)) (g := (mkF m 12 #[.val (.int (-1 : Int32)), .val (.int (1 : Int32)), .unset] [(.int (1 : Int32)), (.int (32 : Int32))])) rfl (by rw [hml]; rfl) (argsL := [(.int (1 : Int32))]) (rest := [(.int (32 : Int32))]) (lenOf own_pd0 rfl) rfl (by show 2 * 0 + _ ≤ _; exact Nat.le_of_eq rfl) (hb hby own_d8_12) (fun _ _ => ⟨rfl, e0, (by decide : 0 + 0 ≤ _), (by decide : 0 + 0 ≤ _)⟩)
  dsimp only [Pt.U, Pt.locs, Pt.cells, Pt.slots] at X1 l1 y1 z1 st1 hQ1
  have y1 : k1 = 0 := y1
  have z1 : n1 = 0 := z1
  obtain ⟨rfl, N1q, e1⟩ := hQ1
  have N1 : Fr n0 L1 := by rw [l1]; exact Fr.app N0 N1q
  refine own_go (fun _ k => st1 _ k) ?_
  show own_Go _ _ _ _ T1 (mkF m 15 #[.val (.int (-1 : Int32)), .val (.int (1 : Int32)), .unset] [(.int (31 : Int32)), (.int (32 : Int32))])
  refine own_go (fun _ k => XS.isub X1.here hx rfl (hb hby own_d8_15) rfl k) ?_
  show own_Go _ _ _ _ T1 (mkF m 16 #[.val (.int (-1 : Int32)), .val (.int (1 : Int32)), .unset] [(.int (1 : Int32))])
  refine own_go (fun _ k => XS.istoreN X1.here hx rfl (hb hby own_d8_16) rfl (l' := #[.val (.int (-1 : Int32)), .val (.int (1 : Int32)), .val (.int (1 : Int32))]) rfl k) ?_
  show own_Go _ _ _ _ T1 (mkF m 17 #[.val (.int (-1 : Int32)), .val (.int (1 : Int32)), .val (.int (1 : Int32))] [])
  refine own_go (fun _ k => XS.iconst X1.here hx rfl (hb hby own_d8_17) k) ?_
  show own_Go _ _ _ _ T1 (mkF m 18 #[.val (.int (-1 : Int32)), .val (.int (1 : Int32)), .val (.int (1 : Int32))] [(.int (1 : Int32))])
  refine own_go (fun _ k => XS.iloadN X1.here hx rfl (hb hby own_d8_18) rfl k) ?_
  show own_Go _ _ _ _ T1 (mkF m 19 #[.val (.int (-1 : Int32)), .val (.int (1 : Int32)), .val (.int (1 : Int32))] [(.int (1 : Int32)), (.int (1 : Int32))])
  refine own_go (fun _ k => XS.bipush X1.here hx rfl (hb hby own_d8_19) k) ?_
  show own_Go _ _ _ _ T1 (mkF m 21 #[.val (.int (-1 : Int32)), .val (.int (1 : Int32)), .val (.int (1 : Int32))] [(.int (6 : Int32)), (.int (1 : Int32)), (.int (1 : Int32))])
  refine own_go (fun _ k => XS.iadd X1.here hx rfl (hb hby own_d8_21) rfl k) ?_
  show own_Go _ _ _ _ T1 (mkF m 22 #[.val (.int (-1 : Int32)), .val (.int (1 : Int32)), .val (.int (1 : Int32))] [(.int (7 : Int32)), (.int (1 : Int32))])
  refine own_go (fun _ k => XS.bipush X1.here hx rfl (hb hby own_d8_22) k) ?_
  show own_Go _ _ _ _ T1 (mkF m 24 #[.val (.int (-1 : Int32)), .val (.int (1 : Int32)), .val (.int (1 : Int32))] [(.int (7 : Int32)), (.int (7 : Int32)), (.int (1 : Int32))])
  have nz2 : (7 : Int32) ≠ 0 := by decide
  refine own_go (fun _ k => XS.idiv X1.here hx rfl (hb hby own_d8_24) rfl nz2 k) ?_
  show own_Go _ _ _ _ T1 (mkF m 25 #[.val (.int (-1 : Int32)), .val (.int (1 : Int32)), .val (.int (1 : Int32))] [(.int (1 : Int32)), (.int (1 : Int32))])
  obtain ⟨_, _, ⟨T3, L3, k3, n3⟩, -, X3, ⟨Lc3, hQ3, l3, y3, z3⟩, st3⟩ := Jvm.LawKit.callS X1 hx (y := (⟨"java/lang/Math", "max", "(II)I"⟩ : MethodName)) hown (mvT hZ (hw _ (List.mem_of_getElem? (i := 53) rfl))) (mvT hZ (hw _ (List.mem_of_getElem? (i := 54) rfl))) (mvT hZ (hw _ (List.mem_of_getElem? (i := 55) rfl))) (mvT hZ (hw _ (List.mem_of_getElem? (i := 56) rfl))) (by decide) (backOf (W := 0) (own_rm10_1 l Z a0 hw []   h0 n0 (by omega) ) hZ (hw _ (List.mem_of_getElem? (i := 56) rfl)) (hw _ (List.mem_of_getElem? (i := 55) rfl)) (by decide) (by decide)) (g := (mkF m 25 #[.val (.int (-1 : Int32)), .val (.int (1 : Int32)), .val (.int (1 : Int32))] [(.int (1 : Int32)), (.int (1 : Int32))])) rfl (by rw [hml]; rfl) (argsL := [(.int (1 : Int32)), (.int (1 : Int32))]) (rest := []) (lenOf own_pd1 rfl) rfl (by show 2 * 0 + _ ≤ _; exact Nat.le_of_eq rfl) (hb hby own_d8_25) (fun _ _ => ⟨rfl, e1, (by show k1 + _ ≤ _; rw [y1]; decide), (by show n1 + _ ≤ _; rw [z1]; decide)⟩)
  dsimp only [Pt.U, Pt.locs, Pt.cells, Pt.slots] at X3 l3 y3 z3 st3 hQ3
  have y3 : k3 = 0 := own_addeq y3 (congrArg (fun q => q) y1) rfl
  have z3 : n3 = 0 := own_addeq z3 (congrArg (fun q => q) z1) rfl
  obtain ⟨rfl, N3q, e3⟩ := hQ3
  have N3 : Fr n0 L3 := by rw [l3]; exact Fr.app N1 N3q
  refine own_go (fun _ k => st3 _ k) ?_
  show own_Go _ _ _ _ T3 (mkF m 28 #[.val (.int (-1 : Int32)), .val (.int (1 : Int32)), .val (.int (1 : Int32))] [(.int (1 : Int32))])
  obtain ⟨fs, hr, hrun, hended, hW, hsame⟩ := X3.leave (v := some (.int (1 : Int32))) (fun h => by rw [Bd.returns] at h; cases h)
  refine ⟨_, _, retOut X3 hx Bd.returns rfl (Or.inl ⟨rfl, Or.inl rfl, _, rfl⟩) (hb hby own_d8_28) hr, hrun, hended, _, _, rfl, ?_, ⟨_, rfl⟩, hW, hsame.mono (by rw [y3]; decide) (by rw [z3]; decide)⟩
  show own_Q8_m Z  h0 n0 _ T3.heap _
  rw [e3]
  exact ⟨rfl, N3, rfl⟩
theorem own_d10_9 : decode jdk_29_method_65_code 9 = .ok (.iload_n 1, 1) := by decide +kernel
theorem own_ef_own_rm10 (m : MethodId) (x0 : Int32) (x1 : Int32) : entryFrame m #[(.int x0), (.int x1)] 2 = mkF m 0 #[.val (.int x0), .val (.int x1)] [] := by first | (simp [entryFrame, mkF, argsToLocals, Value.category]; done) | rfl
set_option maxRecDepth 65536 in
set_option maxHeartbeats 4000000 in
theorem own_t10_0 (p_1 : Int32) (p_2 : Int32) (hc1 : p_1 < p_2) : (p_1.toInt < p_2.toInt ∧ p_2.toInt = p_2.toInt) ∨ (p_2.toInt ≤ p_1.toInt ∧ p_2.toInt = p_1.toInt) := by
  have rv_p_1 := rng32 p_1
  have rv_p_2 := rng32 p_2
  have own0 : (0 : Int32).toInt = 0 := by decide
  simp only [← Int32.toInt_inj, Int32.lt_iff_toInt_lt, implies_true, and_true, true_and, own0] at *
  omega
set_option maxRecDepth 65536 in
set_option maxHeartbeats 4000000 in
theorem own_t10_1 (p_1 : Int32) (p_2 : Int32) (hc1 : ¬ (p_1 < p_2)) : (p_1.toInt < p_2.toInt ∧ p_1.toInt = p_2.toInt) ∨ (p_2.toInt ≤ p_1.toInt ∧ p_1.toInt = p_1.toInt) := by
  have rv_p_1 := rng32 p_1
  have rv_p_2 := rng32 p_2
  have own0 : (0 : Int32).toInt = 0 := by decide
  simp only [← Int32.toInt_inj, Int32.lt_iff_toInt_lt, implies_true, and_true, true_and, own0] at *
  omega
def own_Q10 (Z : State) (p_1 : Int32) (p_2 : Int32) (h0 : Heap) (n0 : Nat) (v : Option Value) (h : Heap) (L : List Loc) : Prop := ∃ (r : Int32), v = some (.int r) ∧ Fr n0 L ∧ h = h0 ∧ ((p_1.toInt < p_2.toInt ∧ r.toInt = p_2.toInt) ∨ (p_2.toInt ≤ p_1.toInt ∧ r.toInt = p_1.toInt))
set_option maxRecDepth 65536 in
set_option maxHeartbeats 40000000 in
theorem own_rm10 (l : Launch) (Z : State) (a0 : Array Value) (hw : ∀ d ∈ tables_1, d.before a0 Z = true) (ws : List Jvm.Cond) (p_1 : Int32) (p_2 : Int32) (h0 : Heap) (n0 : Nat) (Z0 : n0 ≤ h0.size) :
    MetFree l (⟨"java/lang/Math", "max", "(II)I"⟩ : MethodName) (head1 (Jvm.Cond.code (⟨"java/lang/Math", "max", "(II)I"⟩ : MethodName) jdk_29_method_65_code 2 (some .int) :: ws) ({ frames := 0, cells := 0, slots := 0, locals := 0 } : Room)) (fun a U => a = #[(.int p_1), (.int p_2)] ∧ Z.Warmed39 U.vm ∧ U.heap = h0) (fun _ _ _ _ _ => True) (fun _ U o U' => ∃ v L, o = .returned v ∧ own_Q10 Z p_1 p_2 h0 n0 v U'.heap L ∧ FrameEnd U o U' L ({ frames := 0, cells := 0, slots := 0, locals := 0 } : Room).cells ({ frames := 0, cells := 0, slots := 0, locals := 0 } : Room).slots) := by
  refine MetFree.of_bodySF (Jvm.Free.JP.mathPlain rfl (by decide +kernel)) hisR ?_
  intro p e s m args below meth c s₁ Bd hml0 hP hK
  obtain ⟨rfl, hZ, hh⟩ := hP
  have hx := Bd.exec
  have hby := Bd.bytes
  have hml : c.maxLocals = 2 := hml0
  have hown : s.vm.findClass "java/lang/Math" = some m.cls := findClass_of_methodNamed Bd.named
  have hnm := (name_of_methodNamed Bd.named Bd.method).1
  have X0 : Stand p l e ({ frames := 0, cells := 0, slots := 0, locals := 0 } : Room) s m #[(.int p_1), (.int p_2)] below meth c s₁ [] 0 0 := Stand.of_body Bd
  have e0 : s₁.heap = h0 := by rw [← hh, Bd.state]; rfl
  have N0 := Fr.nil n0
  have z0 : n0 ≤ h0.size := Z0
  show own_Go p.tables e below (fun t o => t.status = .running ∧ Ended t below o ∧ ∃ v L, o = .returned v ∧ own_Q10 Z p_1 p_2 h0 n0 v t.heap L ∧ FrameEnd s o t L ({ frames := 0, cells := 0, slots := 0, locals := 0 } : Room).cells ({ frames := 0, cells := 0, slots := 0, locals := 0 } : Room).slots) s₁ (entryFrame m #[(.int p_1), (.int p_2)] 2)
  rw [own_ef_own_rm10 m p_1 p_2]
  show own_Go _ _ _ _ s₁ (mkF m 0 #[.val (.int p_1), .val (.int p_2)] [])
  refine own_go (fun _ k => XS.iloadN X0.here hx rfl (hb hby own_d10_0) rfl k) ?_
  show own_Go _ _ _ _ s₁ (mkF m 1 #[.val (.int p_1), .val (.int p_2)] [(.int p_1)])
  refine own_go (fun _ k => XS.iloadN X0.here hx rfl (hb hby own_d10_1) rfl k) ?_
  show own_Go _ _ _ _ s₁ (mkF m 2 #[.val (.int p_1), .val (.int p_2)] [(.int p_2), (.int p_1)])
  by_cases hc1 : p_1 < p_2
  · refine own_go (fun _ k => XS.icmpYes X0.here hx rfl (pc0 := 2) (pc' := 9) rfl (hb hby own_d10_2) rfl (Jvm.Free.XT.ii_lt_t hc1) (by decide) (by decide) k) ?_
    show own_Go _ _ _ _ s₁ (mkF m 9 #[.val (.int p_1), .val (.int p_2)] [])
    refine own_go (fun _ k => XS.iloadN X0.here hx rfl (hb hby own_d10_9) rfl k) ?_
    show own_Go _ _ _ _ s₁ (mkF m 10 #[.val (.int p_1), .val (.int p_2)] [(.int p_2)])
    obtain ⟨fs, hr, hrun, hended, hW, hsame⟩ := X0.leave (v := some (.int p_2)) (fun h => by rw [Bd.returns] at h; cases h)
    refine ⟨_, _, retOut X0 hx Bd.returns rfl (Or.inl ⟨rfl, Or.inl rfl, _, rfl⟩) (hb hby own_d10_10) hr, hrun, hended, _, _, rfl, ?_, ⟨_, rfl⟩, hW, hsame.mono (by decide) (by decide)⟩
    show own_Q10 Z p_1 p_2 h0 n0 _ s₁.heap _
    rw [e0]
    exact ⟨p_2, rfl, N0, rfl, (own_t10_0 p_1 p_2 hc1)⟩
  · refine own_go (fun _ k => XS.icmpNo X0.here hx rfl (hb hby own_d10_2) rfl (Jvm.Free.XT.ii_lt_f hc1) k) ?_
    show own_Go _ _ _ _ s₁ (mkF m 5 #[.val (.int p_1), .val (.int p_2)] [])
    refine own_go (fun _ k => XS.iloadN X0.here hx rfl (hb hby own_d10_5) rfl k) ?_
    show own_Go _ _ _ _ s₁ (mkF m 6 #[.val (.int p_1), .val (.int p_2)] [(.int p_1)])
    refine own_go (fun _ k => XS.goto X0.here hx rfl (pc0 := 6) (pc' := 10) rfl (hb hby own_d10_6) (by decide) (by decide) k) ?_
    show own_Go _ _ _ _ s₁ (mkF m 10 #[.val (.int p_1), .val (.int p_2)] [(.int p_1)])
    obtain ⟨fs, hr, hrun, hended, hW, hsame⟩ := X0.leave (v := some (.int p_1)) (fun h => by rw [Bd.returns] at h; cases h)
    refine ⟨_, _, retOut X0 hx Bd.returns rfl (Or.inl ⟨rfl, Or.inl rfl, _, rfl⟩) (hb hby own_d10_10) hr, hrun, hended, _, _, rfl, ?_, ⟨_, rfl⟩, hW, hsame.mono (by decide) (by decide)⟩
    show own_Q10 Z p_1 p_2 h0 n0 _ s₁.heap _
    rw [e0]
    exact ⟨p_1, rfl, N0, rfl, (own_t10_1 p_1 p_2 hc1)⟩
theorem own_addx (x y : Int32) (h1 : -2147483648 ≤ x.toInt + y.toInt) (h2 : x.toInt + y.toInt < 2147483648) : (x + y).toInt = x.toInt + y.toInt := by
  have a := c_iadd x y
  have b := rng32 (x + y)
  omega
theorem own_subx (x y : Int32) (k : Int) (e : y.toInt = k) (h : -2147483648 ≤ x.toInt - k ∧ x.toInt - k < 2147483648) : (x - y).toInt = x.toInt - k := by
  have a := c_isub x y
  have b := rng32 (x - y)
  omega
theorem own_zig (p : Int32) : p.toInt < 0 ∨ (0 ≤ p.toInt ∧ (((p <<< ((1 : Int32) &&& 31)) ^^^ (p >>> ((31 : Int32) &&& 31))).toInt - 2 * p.toInt) % 4294967296 = 0) := by
  by_cases h : p.toInt < 0
  · exact Or.inl h
  right
  refine ⟨by omega, ?_⟩
  have a := c_ishl p 1 1 (by decide)
  have b := c_ishr p 31 31 (by decide)
  have r := rng32 p
  have e : p >>> ((31 : Int32) &&& 31) = 0 := Int32.toInt_inj.mp (by rw [b]; show _ = 0; omega)
  rw [e, Int32.xor_zero]
  omega
theorem own_d9_13 : decode jdk_33_method_47_code 13 = .ok (.iconst 0, 1) := by decide +kernel
theorem own_d9_25 : decode jdk_33_method_47_code 25 = .ok (.iinc 1 (-16), 3) := by decide +kernel
theorem own_d9_28 : decode jdk_33_method_47_code 28 = .ok (.iload_n 0, 1) := by decide +kernel
theorem own_d9_29 : decode jdk_33_method_47_code 29 = .ok (.bipush 16, 2) := by decide +kernel
theorem own_d9_31 : decode jdk_33_method_47_code 31 = .ok (.iushr, 1) := by decide +kernel
theorem own_d9_32 : decode jdk_33_method_47_code 32 = .ok (.istore_n 0, 1) := by decide +kernel
theorem own_d9_40 : decode jdk_33_method_47_code 40 = .ok (.iinc 1 (-8), 3) := by decide +kernel
theorem own_d9_43 : decode jdk_33_method_47_code 43 = .ok (.iload_n 0, 1) := by decide +kernel
theorem own_d9_44 : decode jdk_33_method_47_code 44 = .ok (.bipush 8, 2) := by decide +kernel
theorem own_d9_46 : decode jdk_33_method_47_code 46 = .ok (.iushr, 1) := by decide +kernel
theorem own_d9_47 : decode jdk_33_method_47_code 47 = .ok (.istore_n 0, 1) := by decide +kernel
theorem own_d9_54 : decode jdk_33_method_47_code 54 = .ok (.iinc 1 (-4), 3) := by decide +kernel
theorem own_d9_57 : decode jdk_33_method_47_code 57 = .ok (.iload_n 0, 1) := by decide +kernel
theorem own_d9_58 : decode jdk_33_method_47_code 58 = .ok (.iconst 4, 1) := by decide +kernel
theorem own_d9_59 : decode jdk_33_method_47_code 59 = .ok (.iushr, 1) := by decide +kernel
theorem own_d9_60 : decode jdk_33_method_47_code 60 = .ok (.istore_n 0, 1) := by decide +kernel
theorem own_d9_66 : decode jdk_33_method_47_code 66 = .ok (.iinc 1 (-2), 3) := by decide +kernel
theorem own_d9_69 : decode jdk_33_method_47_code 69 = .ok (.iload_n 0, 1) := by decide +kernel
theorem own_d9_70 : decode jdk_33_method_47_code 70 = .ok (.iconst 2, 1) := by decide +kernel
theorem own_d9_71 : decode jdk_33_method_47_code 71 = .ok (.iushr, 1) := by decide +kernel
theorem own_d9_72 : decode jdk_33_method_47_code 72 = .ok (.istore_n 0, 1) := by decide +kernel
theorem own_ef_own_rm9 (m : MethodId) (x0 : Int32) : entryFrame m #[(.int x0)] 2 = mkF m 0 #[.val (.int x0), .unset] [] := by first | (simp [entryFrame, mkF, argsToLocals, Value.category]; done) | rfl
set_option maxRecDepth 65536 in
set_option maxHeartbeats 4000000 in
theorem own_t9_0 (p_1 : Int32) (hc1 : 0 < p_1) (hc2 : p_1 < (65536 : Int32)) (hc3 : p_1 < (256 : Int32)) (hc4 : p_1 < (16 : Int32)) (hc5 : p_1 < (4 : Int32)) : (p_1.toInt < 0 ∧ ((31 : Int32) - ((p_1.toUInt32 >>> ((1 : Int32) &&& 31).toUInt32).toInt32)).toInt = 0) ∨ (p_1.toInt = 0 ∧ ((31 : Int32) - ((p_1.toUInt32 >>> ((1 : Int32) &&& 31).toUInt32).toInt32)).toInt = 32) ∨ (0 < p_1.toInt ∧ p_1.toInt < 128 ∧ 25 ≤ ((31 : Int32) - ((p_1.toUInt32 >>> ((1 : Int32) &&& 31).toUInt32).toInt32)).toInt ∧ ((31 : Int32) - ((p_1.toUInt32 >>> ((1 : Int32) &&& 31).toUInt32).toInt32)).toInt ≤ 31) ∨ (128 ≤ p_1.toInt ∧ p_1.toInt < 16384 ∧ 18 ≤ ((31 : Int32) - ((p_1.toUInt32 >>> ((1 : Int32) &&& 31).toUInt32).toInt32)).toInt ∧ ((31 : Int32) - ((p_1.toUInt32 >>> ((1 : Int32) &&& 31).toUInt32).toInt32)).toInt ≤ 24) ∨ (16384 ≤ p_1.toInt ∧ p_1.toInt < 2097152 ∧ 11 ≤ ((31 : Int32) - ((p_1.toUInt32 >>> ((1 : Int32) &&& 31).toUInt32).toInt32)).toInt ∧ ((31 : Int32) - ((p_1.toUInt32 >>> ((1 : Int32) &&& 31).toUInt32).toInt32)).toInt ≤ 17) ∨ (2097152 ≤ p_1.toInt ∧ p_1.toInt < 268435456 ∧ 4 ≤ ((31 : Int32) - ((p_1.toUInt32 >>> ((1 : Int32) &&& 31).toUInt32).toInt32)).toInt ∧ ((31 : Int32) - ((p_1.toUInt32 >>> ((1 : Int32) &&& 31).toUInt32).toInt32)).toInt ≤ 10) ∨ (268435456 ≤ p_1.toInt ∧ 0 ≤ ((31 : Int32) - ((p_1.toUInt32 >>> ((1 : Int32) &&& 31).toUInt32).toInt32)).toInt ∧ ((31 : Int32) - ((p_1.toUInt32 >>> ((1 : Int32) &&& 31).toUInt32).toInt32)).toInt ≤ 3) := by
  have el0 : (1 : Int32).toInt = 1 := by decide
  have el1 : (4 : Int32).toInt = 4 := by decide
  have el2 : (16 : Int32).toInt = 16 := by decide
  have el3 : (31 : Int32).toInt = 31 := by decide
  have el4 : (256 : Int32).toInt = 256 := by decide
  have el5 : (65536 : Int32).toInt = 65536 := by decide
  have rv_p_1 := rng32 p_1
  have fa7 := c_iushr p_1 (1 : Int32) 1 (by decide) (by decide)
  have fa8 := c_isub (31 : Int32) ((p_1.toUInt32 >>> ((1 : Int32) &&& 31).toUInt32).toInt32)
  have fa9 := rng32 ((31 : Int32) - ((p_1.toUInt32 >>> ((1 : Int32) &&& 31).toUInt32).toInt32))
  have own0 : (0 : Int32).toInt = 0 := by decide
  simp only [← Int32.toInt_inj, Int32.lt_iff_toInt_lt, implies_true, and_true, true_and, own0, el0, el1, el2, el3, el4, el5] at *
  omega
set_option maxRecDepth 65536 in
set_option maxHeartbeats 4000000 in
theorem own_t9_1 (p_1 : Int32) (v7 : Int32) (hc1 : 0 < p_1) (hc2 : p_1 < (65536 : Int32)) (hc3 : p_1 < (256 : Int32)) (hc4 : p_1 < (16 : Int32)) (hc5 : ¬ (p_1 < (4 : Int32))) (hdv7 : ((p_1.toUInt32 >>> ((2 : Int32) &&& 31).toUInt32).toInt32) = v7) : (p_1.toInt < 0 ∧ ((29 : Int32) - ((v7.toUInt32 >>> ((1 : Int32) &&& 31).toUInt32).toInt32)).toInt = 0) ∨ (p_1.toInt = 0 ∧ ((29 : Int32) - ((v7.toUInt32 >>> ((1 : Int32) &&& 31).toUInt32).toInt32)).toInt = 32) ∨ (0 < p_1.toInt ∧ p_1.toInt < 128 ∧ 25 ≤ ((29 : Int32) - ((v7.toUInt32 >>> ((1 : Int32) &&& 31).toUInt32).toInt32)).toInt ∧ ((29 : Int32) - ((v7.toUInt32 >>> ((1 : Int32) &&& 31).toUInt32).toInt32)).toInt ≤ 31) ∨ (128 ≤ p_1.toInt ∧ p_1.toInt < 16384 ∧ 18 ≤ ((29 : Int32) - ((v7.toUInt32 >>> ((1 : Int32) &&& 31).toUInt32).toInt32)).toInt ∧ ((29 : Int32) - ((v7.toUInt32 >>> ((1 : Int32) &&& 31).toUInt32).toInt32)).toInt ≤ 24) ∨ (16384 ≤ p_1.toInt ∧ p_1.toInt < 2097152 ∧ 11 ≤ ((29 : Int32) - ((v7.toUInt32 >>> ((1 : Int32) &&& 31).toUInt32).toInt32)).toInt ∧ ((29 : Int32) - ((v7.toUInt32 >>> ((1 : Int32) &&& 31).toUInt32).toInt32)).toInt ≤ 17) ∨ (2097152 ≤ p_1.toInt ∧ p_1.toInt < 268435456 ∧ 4 ≤ ((29 : Int32) - ((v7.toUInt32 >>> ((1 : Int32) &&& 31).toUInt32).toInt32)).toInt ∧ ((29 : Int32) - ((v7.toUInt32 >>> ((1 : Int32) &&& 31).toUInt32).toInt32)).toInt ≤ 10) ∨ (268435456 ≤ p_1.toInt ∧ 0 ≤ ((29 : Int32) - ((v7.toUInt32 >>> ((1 : Int32) &&& 31).toUInt32).toInt32)).toInt ∧ ((29 : Int32) - ((v7.toUInt32 >>> ((1 : Int32) &&& 31).toUInt32).toInt32)).toInt ≤ 3) := by
  have el0 : (1 : Int32).toInt = 1 := by decide
  have el1 : (2 : Int32).toInt = 2 := by decide
  have el2 : (4 : Int32).toInt = 4 := by decide
  have el3 : (16 : Int32).toInt = 16 := by decide
  have el4 : (29 : Int32).toInt = 29 := by decide
  have el5 : (256 : Int32).toInt = 256 := by decide
  have el6 : (65536 : Int32).toInt = 65536 := by decide
  have rv_p_1 := rng32 p_1
  have rv_v7 := rng32 v7
  have fa9 := c_iushr p_1 (2 : Int32) 2 (by decide) (by decide)
  have fa10 := c_iushr v7 (1 : Int32) 1 (by decide) (by decide)
  have fa11 := c_isub (29 : Int32) ((v7.toUInt32 >>> ((1 : Int32) &&& 31).toUInt32).toInt32)
  have fa12 := rng32 ((29 : Int32) - ((v7.toUInt32 >>> ((1 : Int32) &&& 31).toUInt32).toInt32))
  have own0 : (0 : Int32).toInt = 0 := by decide
  simp only [← Int32.toInt_inj, Int32.lt_iff_toInt_lt, implies_true, and_true, true_and, own0, el0, el1, el2, el3, el4, el5, el6] at *
  omega
set_option maxRecDepth 65536 in
set_option maxHeartbeats 4000000 in
theorem own_t9_2 (p_1 : Int32) (v9 : Int32) (hc1 : 0 < p_1) (hc2 : p_1 < (65536 : Int32)) (hc3 : p_1 < (256 : Int32)) (hc4 : ¬ (p_1 < (16 : Int32))) (hdv9 : ((p_1.toUInt32 >>> ((4 : Int32) &&& 31).toUInt32).toInt32) = v9) (hc10 : v9 < (4 : Int32)) : (p_1.toInt < 0 ∧ ((27 : Int32) - ((v9.toUInt32 >>> ((1 : Int32) &&& 31).toUInt32).toInt32)).toInt = 0) ∨ (p_1.toInt = 0 ∧ ((27 : Int32) - ((v9.toUInt32 >>> ((1 : Int32) &&& 31).toUInt32).toInt32)).toInt = 32) ∨ (0 < p_1.toInt ∧ p_1.toInt < 128 ∧ 25 ≤ ((27 : Int32) - ((v9.toUInt32 >>> ((1 : Int32) &&& 31).toUInt32).toInt32)).toInt ∧ ((27 : Int32) - ((v9.toUInt32 >>> ((1 : Int32) &&& 31).toUInt32).toInt32)).toInt ≤ 31) ∨ (128 ≤ p_1.toInt ∧ p_1.toInt < 16384 ∧ 18 ≤ ((27 : Int32) - ((v9.toUInt32 >>> ((1 : Int32) &&& 31).toUInt32).toInt32)).toInt ∧ ((27 : Int32) - ((v9.toUInt32 >>> ((1 : Int32) &&& 31).toUInt32).toInt32)).toInt ≤ 24) ∨ (16384 ≤ p_1.toInt ∧ p_1.toInt < 2097152 ∧ 11 ≤ ((27 : Int32) - ((v9.toUInt32 >>> ((1 : Int32) &&& 31).toUInt32).toInt32)).toInt ∧ ((27 : Int32) - ((v9.toUInt32 >>> ((1 : Int32) &&& 31).toUInt32).toInt32)).toInt ≤ 17) ∨ (2097152 ≤ p_1.toInt ∧ p_1.toInt < 268435456 ∧ 4 ≤ ((27 : Int32) - ((v9.toUInt32 >>> ((1 : Int32) &&& 31).toUInt32).toInt32)).toInt ∧ ((27 : Int32) - ((v9.toUInt32 >>> ((1 : Int32) &&& 31).toUInt32).toInt32)).toInt ≤ 10) ∨ (268435456 ≤ p_1.toInt ∧ 0 ≤ ((27 : Int32) - ((v9.toUInt32 >>> ((1 : Int32) &&& 31).toUInt32).toInt32)).toInt ∧ ((27 : Int32) - ((v9.toUInt32 >>> ((1 : Int32) &&& 31).toUInt32).toInt32)).toInt ≤ 3) := by
  have el0 : (1 : Int32).toInt = 1 := by decide
  have el1 : (4 : Int32).toInt = 4 := by decide
  have el2 : (16 : Int32).toInt = 16 := by decide
  have el3 : (27 : Int32).toInt = 27 := by decide
  have el4 : (256 : Int32).toInt = 256 := by decide
  have el5 : (65536 : Int32).toInt = 65536 := by decide
  have rv_p_1 := rng32 p_1
  have rv_v9 := rng32 v9
  have fa8 := c_iushr p_1 (4 : Int32) 4 (by decide) (by decide)
  have fa9 := c_iushr v9 (1 : Int32) 1 (by decide) (by decide)
  have fa10 := c_isub (27 : Int32) ((v9.toUInt32 >>> ((1 : Int32) &&& 31).toUInt32).toInt32)
  have fa11 := rng32 ((27 : Int32) - ((v9.toUInt32 >>> ((1 : Int32) &&& 31).toUInt32).toInt32))
  have own0 : (0 : Int32).toInt = 0 := by decide
  simp only [← Int32.toInt_inj, Int32.lt_iff_toInt_lt, implies_true, and_true, true_and, own0, el0, el1, el2, el3, el4, el5] at *
  omega
set_option maxRecDepth 65536 in
set_option maxHeartbeats 4000000 in
theorem own_t9_3 (p_1 : Int32) (v9 : Int32) (v12 : Int32) (hc1 : 0 < p_1) (hc2 : p_1 < (65536 : Int32)) (hc3 : p_1 < (256 : Int32)) (hc4 : ¬ (p_1 < (16 : Int32))) (hdv9 : ((p_1.toUInt32 >>> ((4 : Int32) &&& 31).toUInt32).toInt32) = v9) (hc10 : ¬ (v9 < (4 : Int32))) (hdv12 : ((v9.toUInt32 >>> ((2 : Int32) &&& 31).toUInt32).toInt32) = v12) : (p_1.toInt < 0 ∧ ((25 : Int32) - ((v12.toUInt32 >>> ((1 : Int32) &&& 31).toUInt32).toInt32)).toInt = 0) ∨ (p_1.toInt = 0 ∧ ((25 : Int32) - ((v12.toUInt32 >>> ((1 : Int32) &&& 31).toUInt32).toInt32)).toInt = 32) ∨ (0 < p_1.toInt ∧ p_1.toInt < 128 ∧ 25 ≤ ((25 : Int32) - ((v12.toUInt32 >>> ((1 : Int32) &&& 31).toUInt32).toInt32)).toInt ∧ ((25 : Int32) - ((v12.toUInt32 >>> ((1 : Int32) &&& 31).toUInt32).toInt32)).toInt ≤ 31) ∨ (128 ≤ p_1.toInt ∧ p_1.toInt < 16384 ∧ 18 ≤ ((25 : Int32) - ((v12.toUInt32 >>> ((1 : Int32) &&& 31).toUInt32).toInt32)).toInt ∧ ((25 : Int32) - ((v12.toUInt32 >>> ((1 : Int32) &&& 31).toUInt32).toInt32)).toInt ≤ 24) ∨ (16384 ≤ p_1.toInt ∧ p_1.toInt < 2097152 ∧ 11 ≤ ((25 : Int32) - ((v12.toUInt32 >>> ((1 : Int32) &&& 31).toUInt32).toInt32)).toInt ∧ ((25 : Int32) - ((v12.toUInt32 >>> ((1 : Int32) &&& 31).toUInt32).toInt32)).toInt ≤ 17) ∨ (2097152 ≤ p_1.toInt ∧ p_1.toInt < 268435456 ∧ 4 ≤ ((25 : Int32) - ((v12.toUInt32 >>> ((1 : Int32) &&& 31).toUInt32).toInt32)).toInt ∧ ((25 : Int32) - ((v12.toUInt32 >>> ((1 : Int32) &&& 31).toUInt32).toInt32)).toInt ≤ 10) ∨ (268435456 ≤ p_1.toInt ∧ 0 ≤ ((25 : Int32) - ((v12.toUInt32 >>> ((1 : Int32) &&& 31).toUInt32).toInt32)).toInt ∧ ((25 : Int32) - ((v12.toUInt32 >>> ((1 : Int32) &&& 31).toUInt32).toInt32)).toInt ≤ 3) := by
  have el0 : (1 : Int32).toInt = 1 := by decide
  have el1 : (2 : Int32).toInt = 2 := by decide
  have el2 : (4 : Int32).toInt = 4 := by decide
  have el3 : (16 : Int32).toInt = 16 := by decide
  have el4 : (25 : Int32).toInt = 25 := by decide
  have el5 : (256 : Int32).toInt = 256 := by decide
  have el6 : (65536 : Int32).toInt = 65536 := by decide
  have rv_p_1 := rng32 p_1
  have rv_v9 := rng32 v9
  have rv_v12 := rng32 v12
  have fa10 := c_iushr p_1 (4 : Int32) 4 (by decide) (by decide)
  have fa11 := c_iushr v9 (2 : Int32) 2 (by decide) (by decide)
  have fa12 := c_iushr v12 (1 : Int32) 1 (by decide) (by decide)
  have fa13 := c_isub (25 : Int32) ((v12.toUInt32 >>> ((1 : Int32) &&& 31).toUInt32).toInt32)
  have fa14 := rng32 ((25 : Int32) - ((v12.toUInt32 >>> ((1 : Int32) &&& 31).toUInt32).toInt32))
  have own0 : (0 : Int32).toInt = 0 := by decide
  simp only [← Int32.toInt_inj, Int32.lt_iff_toInt_lt, implies_true, and_true, true_and, own0, el0, el1, el2, el3, el4, el5, el6] at *
  omega
set_option maxRecDepth 65536 in
set_option maxHeartbeats 4000000 in
theorem own_t9_4 (p_1 : Int32) (v14 : Int32) (hc1 : 0 < p_1) (hc2 : p_1 < (65536 : Int32)) (hc3 : ¬ (p_1 < (256 : Int32))) (hdv14 : ((p_1.toUInt32 >>> ((8 : Int32) &&& 31).toUInt32).toInt32) = v14) (hc15 : v14 < (16 : Int32)) (hc16 : v14 < (4 : Int32)) : (p_1.toInt < 0 ∧ ((23 : Int32) - ((v14.toUInt32 >>> ((1 : Int32) &&& 31).toUInt32).toInt32)).toInt = 0) ∨ (p_1.toInt = 0 ∧ ((23 : Int32) - ((v14.toUInt32 >>> ((1 : Int32) &&& 31).toUInt32).toInt32)).toInt = 32) ∨ (0 < p_1.toInt ∧ p_1.toInt < 128 ∧ 25 ≤ ((23 : Int32) - ((v14.toUInt32 >>> ((1 : Int32) &&& 31).toUInt32).toInt32)).toInt ∧ ((23 : Int32) - ((v14.toUInt32 >>> ((1 : Int32) &&& 31).toUInt32).toInt32)).toInt ≤ 31) ∨ (128 ≤ p_1.toInt ∧ p_1.toInt < 16384 ∧ 18 ≤ ((23 : Int32) - ((v14.toUInt32 >>> ((1 : Int32) &&& 31).toUInt32).toInt32)).toInt ∧ ((23 : Int32) - ((v14.toUInt32 >>> ((1 : Int32) &&& 31).toUInt32).toInt32)).toInt ≤ 24) ∨ (16384 ≤ p_1.toInt ∧ p_1.toInt < 2097152 ∧ 11 ≤ ((23 : Int32) - ((v14.toUInt32 >>> ((1 : Int32) &&& 31).toUInt32).toInt32)).toInt ∧ ((23 : Int32) - ((v14.toUInt32 >>> ((1 : Int32) &&& 31).toUInt32).toInt32)).toInt ≤ 17) ∨ (2097152 ≤ p_1.toInt ∧ p_1.toInt < 268435456 ∧ 4 ≤ ((23 : Int32) - ((v14.toUInt32 >>> ((1 : Int32) &&& 31).toUInt32).toInt32)).toInt ∧ ((23 : Int32) - ((v14.toUInt32 >>> ((1 : Int32) &&& 31).toUInt32).toInt32)).toInt ≤ 10) ∨ (268435456 ≤ p_1.toInt ∧ 0 ≤ ((23 : Int32) - ((v14.toUInt32 >>> ((1 : Int32) &&& 31).toUInt32).toInt32)).toInt ∧ ((23 : Int32) - ((v14.toUInt32 >>> ((1 : Int32) &&& 31).toUInt32).toInt32)).toInt ≤ 3) := by
  have el0 : (1 : Int32).toInt = 1 := by decide
  have el1 : (4 : Int32).toInt = 4 := by decide
  have el2 : (8 : Int32).toInt = 8 := by decide
  have el3 : (16 : Int32).toInt = 16 := by decide
  have el4 : (23 : Int32).toInt = 23 := by decide
  have el5 : (256 : Int32).toInt = 256 := by decide
  have el6 : (65536 : Int32).toInt = 65536 := by decide
  have rv_p_1 := rng32 p_1
  have rv_v14 := rng32 v14
  have fa9 := c_iushr p_1 (8 : Int32) 8 (by decide) (by decide)
  have fa10 := c_iushr v14 (1 : Int32) 1 (by decide) (by decide)
  have fa11 := c_isub (23 : Int32) ((v14.toUInt32 >>> ((1 : Int32) &&& 31).toUInt32).toInt32)
  have fa12 := rng32 ((23 : Int32) - ((v14.toUInt32 >>> ((1 : Int32) &&& 31).toUInt32).toInt32))
  have own0 : (0 : Int32).toInt = 0 := by decide
  simp only [← Int32.toInt_inj, Int32.lt_iff_toInt_lt, implies_true, and_true, true_and, own0, el0, el1, el2, el3, el4, el5, el6] at *
  omega
set_option maxRecDepth 65536 in
set_option maxHeartbeats 4000000 in
theorem own_t9_5 (p_1 : Int32) (v14 : Int32) (v18 : Int32) (hc1 : 0 < p_1) (hc2 : p_1 < (65536 : Int32)) (hc3 : ¬ (p_1 < (256 : Int32))) (hdv14 : ((p_1.toUInt32 >>> ((8 : Int32) &&& 31).toUInt32).toInt32) = v14) (hc15 : v14 < (16 : Int32)) (hc16 : ¬ (v14 < (4 : Int32))) (hdv18 : ((v14.toUInt32 >>> ((2 : Int32) &&& 31).toUInt32).toInt32) = v18) : (p_1.toInt < 0 ∧ ((21 : Int32) - ((v18.toUInt32 >>> ((1 : Int32) &&& 31).toUInt32).toInt32)).toInt = 0) ∨ (p_1.toInt = 0 ∧ ((21 : Int32) - ((v18.toUInt32 >>> ((1 : Int32) &&& 31).toUInt32).toInt32)).toInt = 32) ∨ (0 < p_1.toInt ∧ p_1.toInt < 128 ∧ 25 ≤ ((21 : Int32) - ((v18.toUInt32 >>> ((1 : Int32) &&& 31).toUInt32).toInt32)).toInt ∧ ((21 : Int32) - ((v18.toUInt32 >>> ((1 : Int32) &&& 31).toUInt32).toInt32)).toInt ≤ 31) ∨ (128 ≤ p_1.toInt ∧ p_1.toInt < 16384 ∧ 18 ≤ ((21 : Int32) - ((v18.toUInt32 >>> ((1 : Int32) &&& 31).toUInt32).toInt32)).toInt ∧ ((21 : Int32) - ((v18.toUInt32 >>> ((1 : Int32) &&& 31).toUInt32).toInt32)).toInt ≤ 24) ∨ (16384 ≤ p_1.toInt ∧ p_1.toInt < 2097152 ∧ 11 ≤ ((21 : Int32) - ((v18.toUInt32 >>> ((1 : Int32) &&& 31).toUInt32).toInt32)).toInt ∧ ((21 : Int32) - ((v18.toUInt32 >>> ((1 : Int32) &&& 31).toUInt32).toInt32)).toInt ≤ 17) ∨ (2097152 ≤ p_1.toInt ∧ p_1.toInt < 268435456 ∧ 4 ≤ ((21 : Int32) - ((v18.toUInt32 >>> ((1 : Int32) &&& 31).toUInt32).toInt32)).toInt ∧ ((21 : Int32) - ((v18.toUInt32 >>> ((1 : Int32) &&& 31).toUInt32).toInt32)).toInt ≤ 10) ∨ (268435456 ≤ p_1.toInt ∧ 0 ≤ ((21 : Int32) - ((v18.toUInt32 >>> ((1 : Int32) &&& 31).toUInt32).toInt32)).toInt ∧ ((21 : Int32) - ((v18.toUInt32 >>> ((1 : Int32) &&& 31).toUInt32).toInt32)).toInt ≤ 3) := by
  have el0 : (1 : Int32).toInt = 1 := by decide
  have el1 : (2 : Int32).toInt = 2 := by decide
  have el2 : (4 : Int32).toInt = 4 := by decide
  have el3 : (8 : Int32).toInt = 8 := by decide
  have el4 : (16 : Int32).toInt = 16 := by decide
  have el5 : (21 : Int32).toInt = 21 := by decide
  have el6 : (256 : Int32).toInt = 256 := by decide
  have el7 : (65536 : Int32).toInt = 65536 := by decide
  have rv_p_1 := rng32 p_1
  have rv_v14 := rng32 v14
  have rv_v18 := rng32 v18
  have fa11 := c_iushr p_1 (8 : Int32) 8 (by decide) (by decide)
  have fa12 := c_iushr v14 (2 : Int32) 2 (by decide) (by decide)
  have fa13 := c_iushr v18 (1 : Int32) 1 (by decide) (by decide)
  have fa14 := c_isub (21 : Int32) ((v18.toUInt32 >>> ((1 : Int32) &&& 31).toUInt32).toInt32)
  have fa15 := rng32 ((21 : Int32) - ((v18.toUInt32 >>> ((1 : Int32) &&& 31).toUInt32).toInt32))
  have own0 : (0 : Int32).toInt = 0 := by decide
  simp only [← Int32.toInt_inj, Int32.lt_iff_toInt_lt, implies_true, and_true, true_and, own0, el0, el1, el2, el3, el4, el5, el6, el7] at *
  omega
set_option maxRecDepth 65536 in
set_option maxHeartbeats 4000000 in
theorem own_t9_6 (p_1 : Int32) (v14 : Int32) (v20 : Int32) (hc1 : 0 < p_1) (hc2 : p_1 < (65536 : Int32)) (hc3 : ¬ (p_1 < (256 : Int32))) (hdv14 : ((p_1.toUInt32 >>> ((8 : Int32) &&& 31).toUInt32).toInt32) = v14) (hc15 : ¬ (v14 < (16 : Int32))) (hdv20 : ((v14.toUInt32 >>> ((4 : Int32) &&& 31).toUInt32).toInt32) = v20) (hc21 : v20 < (4 : Int32)) : (p_1.toInt < 0 ∧ ((19 : Int32) - ((v20.toUInt32 >>> ((1 : Int32) &&& 31).toUInt32).toInt32)).toInt = 0) ∨ (p_1.toInt = 0 ∧ ((19 : Int32) - ((v20.toUInt32 >>> ((1 : Int32) &&& 31).toUInt32).toInt32)).toInt = 32) ∨ (0 < p_1.toInt ∧ p_1.toInt < 128 ∧ 25 ≤ ((19 : Int32) - ((v20.toUInt32 >>> ((1 : Int32) &&& 31).toUInt32).toInt32)).toInt ∧ ((19 : Int32) - ((v20.toUInt32 >>> ((1 : Int32) &&& 31).toUInt32).toInt32)).toInt ≤ 31) ∨ (128 ≤ p_1.toInt ∧ p_1.toInt < 16384 ∧ 18 ≤ ((19 : Int32) - ((v20.toUInt32 >>> ((1 : Int32) &&& 31).toUInt32).toInt32)).toInt ∧ ((19 : Int32) - ((v20.toUInt32 >>> ((1 : Int32) &&& 31).toUInt32).toInt32)).toInt ≤ 24) ∨ (16384 ≤ p_1.toInt ∧ p_1.toInt < 2097152 ∧ 11 ≤ ((19 : Int32) - ((v20.toUInt32 >>> ((1 : Int32) &&& 31).toUInt32).toInt32)).toInt ∧ ((19 : Int32) - ((v20.toUInt32 >>> ((1 : Int32) &&& 31).toUInt32).toInt32)).toInt ≤ 17) ∨ (2097152 ≤ p_1.toInt ∧ p_1.toInt < 268435456 ∧ 4 ≤ ((19 : Int32) - ((v20.toUInt32 >>> ((1 : Int32) &&& 31).toUInt32).toInt32)).toInt ∧ ((19 : Int32) - ((v20.toUInt32 >>> ((1 : Int32) &&& 31).toUInt32).toInt32)).toInt ≤ 10) ∨ (268435456 ≤ p_1.toInt ∧ 0 ≤ ((19 : Int32) - ((v20.toUInt32 >>> ((1 : Int32) &&& 31).toUInt32).toInt32)).toInt ∧ ((19 : Int32) - ((v20.toUInt32 >>> ((1 : Int32) &&& 31).toUInt32).toInt32)).toInt ≤ 3) := by
  have el0 : (1 : Int32).toInt = 1 := by decide
  have el1 : (4 : Int32).toInt = 4 := by decide
  have el2 : (8 : Int32).toInt = 8 := by decide
  have el3 : (16 : Int32).toInt = 16 := by decide
  have el4 : (19 : Int32).toInt = 19 := by decide
  have el5 : (256 : Int32).toInt = 256 := by decide
  have el6 : (65536 : Int32).toInt = 65536 := by decide
  have rv_p_1 := rng32 p_1
  have rv_v14 := rng32 v14
  have rv_v20 := rng32 v20
  have fa10 := c_iushr p_1 (8 : Int32) 8 (by decide) (by decide)
  have fa11 := c_iushr v14 (4 : Int32) 4 (by decide) (by decide)
  have fa12 := c_iushr v20 (1 : Int32) 1 (by decide) (by decide)
  have fa13 := c_isub (19 : Int32) ((v20.toUInt32 >>> ((1 : Int32) &&& 31).toUInt32).toInt32)
  have fa14 := rng32 ((19 : Int32) - ((v20.toUInt32 >>> ((1 : Int32) &&& 31).toUInt32).toInt32))
  have own0 : (0 : Int32).toInt = 0 := by decide
  simp only [← Int32.toInt_inj, Int32.lt_iff_toInt_lt, implies_true, and_true, true_and, own0, el0, el1, el2, el3, el4, el5, el6] at *
  omega
set_option maxRecDepth 65536 in
set_option maxHeartbeats 4000000 in
theorem own_t9_7 (p_1 : Int32) (v14 : Int32) (v20 : Int32) (v23 : Int32) (hc1 : 0 < p_1) (hc2 : p_1 < (65536 : Int32)) (hc3 : ¬ (p_1 < (256 : Int32))) (hdv14 : ((p_1.toUInt32 >>> ((8 : Int32) &&& 31).toUInt32).toInt32) = v14) (hc15 : ¬ (v14 < (16 : Int32))) (hdv20 : ((v14.toUInt32 >>> ((4 : Int32) &&& 31).toUInt32).toInt32) = v20) (hc21 : ¬ (v20 < (4 : Int32))) (hdv23 : ((v20.toUInt32 >>> ((2 : Int32) &&& 31).toUInt32).toInt32) = v23) : (p_1.toInt < 0 ∧ ((17 : Int32) - ((v23.toUInt32 >>> ((1 : Int32) &&& 31).toUInt32).toInt32)).toInt = 0) ∨ (p_1.toInt = 0 ∧ ((17 : Int32) - ((v23.toUInt32 >>> ((1 : Int32) &&& 31).toUInt32).toInt32)).toInt = 32) ∨ (0 < p_1.toInt ∧ p_1.toInt < 128 ∧ 25 ≤ ((17 : Int32) - ((v23.toUInt32 >>> ((1 : Int32) &&& 31).toUInt32).toInt32)).toInt ∧ ((17 : Int32) - ((v23.toUInt32 >>> ((1 : Int32) &&& 31).toUInt32).toInt32)).toInt ≤ 31) ∨ (128 ≤ p_1.toInt ∧ p_1.toInt < 16384 ∧ 18 ≤ ((17 : Int32) - ((v23.toUInt32 >>> ((1 : Int32) &&& 31).toUInt32).toInt32)).toInt ∧ ((17 : Int32) - ((v23.toUInt32 >>> ((1 : Int32) &&& 31).toUInt32).toInt32)).toInt ≤ 24) ∨ (16384 ≤ p_1.toInt ∧ p_1.toInt < 2097152 ∧ 11 ≤ ((17 : Int32) - ((v23.toUInt32 >>> ((1 : Int32) &&& 31).toUInt32).toInt32)).toInt ∧ ((17 : Int32) - ((v23.toUInt32 >>> ((1 : Int32) &&& 31).toUInt32).toInt32)).toInt ≤ 17) ∨ (2097152 ≤ p_1.toInt ∧ p_1.toInt < 268435456 ∧ 4 ≤ ((17 : Int32) - ((v23.toUInt32 >>> ((1 : Int32) &&& 31).toUInt32).toInt32)).toInt ∧ ((17 : Int32) - ((v23.toUInt32 >>> ((1 : Int32) &&& 31).toUInt32).toInt32)).toInt ≤ 10) ∨ (268435456 ≤ p_1.toInt ∧ 0 ≤ ((17 : Int32) - ((v23.toUInt32 >>> ((1 : Int32) &&& 31).toUInt32).toInt32)).toInt ∧ ((17 : Int32) - ((v23.toUInt32 >>> ((1 : Int32) &&& 31).toUInt32).toInt32)).toInt ≤ 3) := by
  have el0 : (1 : Int32).toInt = 1 := by decide
  have el1 : (2 : Int32).toInt = 2 := by decide
  have el2 : (4 : Int32).toInt = 4 := by decide
  have el3 : (8 : Int32).toInt = 8 := by decide
  have el4 : (16 : Int32).toInt = 16 := by decide
  have el5 : (17 : Int32).toInt = 17 := by decide
  have el6 : (256 : Int32).toInt = 256 := by decide
  have el7 : (65536 : Int32).toInt = 65536 := by decide
  have rv_p_1 := rng32 p_1
  have rv_v14 := rng32 v14
  have rv_v20 := rng32 v20
  have rv_v23 := rng32 v23
  have fa12 := c_iushr p_1 (8 : Int32) 8 (by decide) (by decide)
  have fa13 := c_iushr v14 (4 : Int32) 4 (by decide) (by decide)
  have fa14 := c_iushr v20 (2 : Int32) 2 (by decide) (by decide)
  have fa15 := c_iushr v23 (1 : Int32) 1 (by decide) (by decide)
  have fa16 := c_isub (17 : Int32) ((v23.toUInt32 >>> ((1 : Int32) &&& 31).toUInt32).toInt32)
  have fa17 := rng32 ((17 : Int32) - ((v23.toUInt32 >>> ((1 : Int32) &&& 31).toUInt32).toInt32))
  have own0 : (0 : Int32).toInt = 0 := by decide
  simp only [← Int32.toInt_inj, Int32.lt_iff_toInt_lt, implies_true, and_true, true_and, own0, el0, el1, el2, el3, el4, el5, el6, el7] at *
  omega
set_option maxRecDepth 65536 in
set_option maxHeartbeats 4000000 in
theorem own_t9_8 (p_1 : Int32) (v25 : Int32) (hc1 : 0 < p_1) (hc2 : ¬ (p_1 < (65536 : Int32))) (hdv25 : ((p_1.toUInt32 >>> ((16 : Int32) &&& 31).toUInt32).toInt32) = v25) (hc26 : v25 < (256 : Int32)) (hc27 : v25 < (16 : Int32)) (hc28 : v25 < (4 : Int32)) : (p_1.toInt < 0 ∧ ((15 : Int32) - ((v25.toUInt32 >>> ((1 : Int32) &&& 31).toUInt32).toInt32)).toInt = 0) ∨ (p_1.toInt = 0 ∧ ((15 : Int32) - ((v25.toUInt32 >>> ((1 : Int32) &&& 31).toUInt32).toInt32)).toInt = 32) ∨ (0 < p_1.toInt ∧ p_1.toInt < 128 ∧ 25 ≤ ((15 : Int32) - ((v25.toUInt32 >>> ((1 : Int32) &&& 31).toUInt32).toInt32)).toInt ∧ ((15 : Int32) - ((v25.toUInt32 >>> ((1 : Int32) &&& 31).toUInt32).toInt32)).toInt ≤ 31) ∨ (128 ≤ p_1.toInt ∧ p_1.toInt < 16384 ∧ 18 ≤ ((15 : Int32) - ((v25.toUInt32 >>> ((1 : Int32) &&& 31).toUInt32).toInt32)).toInt ∧ ((15 : Int32) - ((v25.toUInt32 >>> ((1 : Int32) &&& 31).toUInt32).toInt32)).toInt ≤ 24) ∨ (16384 ≤ p_1.toInt ∧ p_1.toInt < 2097152 ∧ 11 ≤ ((15 : Int32) - ((v25.toUInt32 >>> ((1 : Int32) &&& 31).toUInt32).toInt32)).toInt ∧ ((15 : Int32) - ((v25.toUInt32 >>> ((1 : Int32) &&& 31).toUInt32).toInt32)).toInt ≤ 17) ∨ (2097152 ≤ p_1.toInt ∧ p_1.toInt < 268435456 ∧ 4 ≤ ((15 : Int32) - ((v25.toUInt32 >>> ((1 : Int32) &&& 31).toUInt32).toInt32)).toInt ∧ ((15 : Int32) - ((v25.toUInt32 >>> ((1 : Int32) &&& 31).toUInt32).toInt32)).toInt ≤ 10) ∨ (268435456 ≤ p_1.toInt ∧ 0 ≤ ((15 : Int32) - ((v25.toUInt32 >>> ((1 : Int32) &&& 31).toUInt32).toInt32)).toInt ∧ ((15 : Int32) - ((v25.toUInt32 >>> ((1 : Int32) &&& 31).toUInt32).toInt32)).toInt ≤ 3) := by
  have el0 : (1 : Int32).toInt = 1 := by decide
  have el1 : (4 : Int32).toInt = 4 := by decide
  have el2 : (15 : Int32).toInt = 15 := by decide
  have el3 : (16 : Int32).toInt = 16 := by decide
  have el4 : (256 : Int32).toInt = 256 := by decide
  have el5 : (65536 : Int32).toInt = 65536 := by decide
  have rv_p_1 := rng32 p_1
  have rv_v25 := rng32 v25
  have fa8 := c_iushr p_1 (16 : Int32) 16 (by decide) (by decide)
  have fa9 := c_iushr v25 (1 : Int32) 1 (by decide) (by decide)
  have fa10 := c_isub (15 : Int32) ((v25.toUInt32 >>> ((1 : Int32) &&& 31).toUInt32).toInt32)
  have fa11 := rng32 ((15 : Int32) - ((v25.toUInt32 >>> ((1 : Int32) &&& 31).toUInt32).toInt32))
  have own0 : (0 : Int32).toInt = 0 := by decide
  simp only [← Int32.toInt_inj, Int32.lt_iff_toInt_lt, implies_true, and_true, true_and, own0, el0, el1, el2, el3, el4, el5] at *
  omega
set_option maxRecDepth 65536 in
set_option maxHeartbeats 4000000 in
theorem own_t9_9 (p_1 : Int32) (v25 : Int32) (v30 : Int32) (hc1 : 0 < p_1) (hc2 : ¬ (p_1 < (65536 : Int32))) (hdv25 : ((p_1.toUInt32 >>> ((16 : Int32) &&& 31).toUInt32).toInt32) = v25) (hc26 : v25 < (256 : Int32)) (hc27 : v25 < (16 : Int32)) (hc28 : ¬ (v25 < (4 : Int32))) (hdv30 : ((v25.toUInt32 >>> ((2 : Int32) &&& 31).toUInt32).toInt32) = v30) : (p_1.toInt < 0 ∧ ((13 : Int32) - ((v30.toUInt32 >>> ((1 : Int32) &&& 31).toUInt32).toInt32)).toInt = 0) ∨ (p_1.toInt = 0 ∧ ((13 : Int32) - ((v30.toUInt32 >>> ((1 : Int32) &&& 31).toUInt32).toInt32)).toInt = 32) ∨ (0 < p_1.toInt ∧ p_1.toInt < 128 ∧ 25 ≤ ((13 : Int32) - ((v30.toUInt32 >>> ((1 : Int32) &&& 31).toUInt32).toInt32)).toInt ∧ ((13 : Int32) - ((v30.toUInt32 >>> ((1 : Int32) &&& 31).toUInt32).toInt32)).toInt ≤ 31) ∨ (128 ≤ p_1.toInt ∧ p_1.toInt < 16384 ∧ 18 ≤ ((13 : Int32) - ((v30.toUInt32 >>> ((1 : Int32) &&& 31).toUInt32).toInt32)).toInt ∧ ((13 : Int32) - ((v30.toUInt32 >>> ((1 : Int32) &&& 31).toUInt32).toInt32)).toInt ≤ 24) ∨ (16384 ≤ p_1.toInt ∧ p_1.toInt < 2097152 ∧ 11 ≤ ((13 : Int32) - ((v30.toUInt32 >>> ((1 : Int32) &&& 31).toUInt32).toInt32)).toInt ∧ ((13 : Int32) - ((v30.toUInt32 >>> ((1 : Int32) &&& 31).toUInt32).toInt32)).toInt ≤ 17) ∨ (2097152 ≤ p_1.toInt ∧ p_1.toInt < 268435456 ∧ 4 ≤ ((13 : Int32) - ((v30.toUInt32 >>> ((1 : Int32) &&& 31).toUInt32).toInt32)).toInt ∧ ((13 : Int32) - ((v30.toUInt32 >>> ((1 : Int32) &&& 31).toUInt32).toInt32)).toInt ≤ 10) ∨ (268435456 ≤ p_1.toInt ∧ 0 ≤ ((13 : Int32) - ((v30.toUInt32 >>> ((1 : Int32) &&& 31).toUInt32).toInt32)).toInt ∧ ((13 : Int32) - ((v30.toUInt32 >>> ((1 : Int32) &&& 31).toUInt32).toInt32)).toInt ≤ 3) := by
  have el0 : (1 : Int32).toInt = 1 := by decide
  have el1 : (2 : Int32).toInt = 2 := by decide
  have el2 : (4 : Int32).toInt = 4 := by decide
  have el3 : (13 : Int32).toInt = 13 := by decide
  have el4 : (16 : Int32).toInt = 16 := by decide
  have el5 : (256 : Int32).toInt = 256 := by decide
  have el6 : (65536 : Int32).toInt = 65536 := by decide
  have rv_p_1 := rng32 p_1
  have rv_v25 := rng32 v25
  have rv_v30 := rng32 v30
  have fa10 := c_iushr p_1 (16 : Int32) 16 (by decide) (by decide)
  have fa11 := c_iushr v25 (2 : Int32) 2 (by decide) (by decide)
  have fa12 := c_iushr v30 (1 : Int32) 1 (by decide) (by decide)
  have fa13 := c_isub (13 : Int32) ((v30.toUInt32 >>> ((1 : Int32) &&& 31).toUInt32).toInt32)
  have fa14 := rng32 ((13 : Int32) - ((v30.toUInt32 >>> ((1 : Int32) &&& 31).toUInt32).toInt32))
  have own0 : (0 : Int32).toInt = 0 := by decide
  simp only [← Int32.toInt_inj, Int32.lt_iff_toInt_lt, implies_true, and_true, true_and, own0, el0, el1, el2, el3, el4, el5, el6] at *
  omega
set_option maxRecDepth 65536 in
set_option maxHeartbeats 4000000 in
theorem own_t9_10 (p_1 : Int32) (v25 : Int32) (v32 : Int32) (hc1 : 0 < p_1) (hc2 : ¬ (p_1 < (65536 : Int32))) (hdv25 : ((p_1.toUInt32 >>> ((16 : Int32) &&& 31).toUInt32).toInt32) = v25) (hc26 : v25 < (256 : Int32)) (hc27 : ¬ (v25 < (16 : Int32))) (hdv32 : ((v25.toUInt32 >>> ((4 : Int32) &&& 31).toUInt32).toInt32) = v32) (hc33 : v32 < (4 : Int32)) : (p_1.toInt < 0 ∧ ((11 : Int32) - ((v32.toUInt32 >>> ((1 : Int32) &&& 31).toUInt32).toInt32)).toInt = 0) ∨ (p_1.toInt = 0 ∧ ((11 : Int32) - ((v32.toUInt32 >>> ((1 : Int32) &&& 31).toUInt32).toInt32)).toInt = 32) ∨ (0 < p_1.toInt ∧ p_1.toInt < 128 ∧ 25 ≤ ((11 : Int32) - ((v32.toUInt32 >>> ((1 : Int32) &&& 31).toUInt32).toInt32)).toInt ∧ ((11 : Int32) - ((v32.toUInt32 >>> ((1 : Int32) &&& 31).toUInt32).toInt32)).toInt ≤ 31) ∨ (128 ≤ p_1.toInt ∧ p_1.toInt < 16384 ∧ 18 ≤ ((11 : Int32) - ((v32.toUInt32 >>> ((1 : Int32) &&& 31).toUInt32).toInt32)).toInt ∧ ((11 : Int32) - ((v32.toUInt32 >>> ((1 : Int32) &&& 31).toUInt32).toInt32)).toInt ≤ 24) ∨ (16384 ≤ p_1.toInt ∧ p_1.toInt < 2097152 ∧ 11 ≤ ((11 : Int32) - ((v32.toUInt32 >>> ((1 : Int32) &&& 31).toUInt32).toInt32)).toInt ∧ ((11 : Int32) - ((v32.toUInt32 >>> ((1 : Int32) &&& 31).toUInt32).toInt32)).toInt ≤ 17) ∨ (2097152 ≤ p_1.toInt ∧ p_1.toInt < 268435456 ∧ 4 ≤ ((11 : Int32) - ((v32.toUInt32 >>> ((1 : Int32) &&& 31).toUInt32).toInt32)).toInt ∧ ((11 : Int32) - ((v32.toUInt32 >>> ((1 : Int32) &&& 31).toUInt32).toInt32)).toInt ≤ 10) ∨ (268435456 ≤ p_1.toInt ∧ 0 ≤ ((11 : Int32) - ((v32.toUInt32 >>> ((1 : Int32) &&& 31).toUInt32).toInt32)).toInt ∧ ((11 : Int32) - ((v32.toUInt32 >>> ((1 : Int32) &&& 31).toUInt32).toInt32)).toInt ≤ 3) := by
  have el0 : (1 : Int32).toInt = 1 := by decide
  have el1 : (4 : Int32).toInt = 4 := by decide
  have el2 : (11 : Int32).toInt = 11 := by decide
  have el3 : (16 : Int32).toInt = 16 := by decide
  have el4 : (256 : Int32).toInt = 256 := by decide
  have el5 : (65536 : Int32).toInt = 65536 := by decide
  have rv_p_1 := rng32 p_1
  have rv_v25 := rng32 v25
  have rv_v32 := rng32 v32
  have fa9 := c_iushr p_1 (16 : Int32) 16 (by decide) (by decide)
  have fa10 := c_iushr v25 (4 : Int32) 4 (by decide) (by decide)
  have fa11 := c_iushr v32 (1 : Int32) 1 (by decide) (by decide)
  have fa12 := c_isub (11 : Int32) ((v32.toUInt32 >>> ((1 : Int32) &&& 31).toUInt32).toInt32)
  have fa13 := rng32 ((11 : Int32) - ((v32.toUInt32 >>> ((1 : Int32) &&& 31).toUInt32).toInt32))
  have own0 : (0 : Int32).toInt = 0 := by decide
  simp only [← Int32.toInt_inj, Int32.lt_iff_toInt_lt, implies_true, and_true, true_and, own0, el0, el1, el2, el3, el4, el5] at *
  omega
set_option maxRecDepth 65536 in
set_option maxHeartbeats 4000000 in
theorem own_t9_11 (p_1 : Int32) (v25 : Int32) (v32 : Int32) (v35 : Int32) (hc1 : 0 < p_1) (hc2 : ¬ (p_1 < (65536 : Int32))) (hdv25 : ((p_1.toUInt32 >>> ((16 : Int32) &&& 31).toUInt32).toInt32) = v25) (hc26 : v25 < (256 : Int32)) (hc27 : ¬ (v25 < (16 : Int32))) (hdv32 : ((v25.toUInt32 >>> ((4 : Int32) &&& 31).toUInt32).toInt32) = v32) (hc33 : ¬ (v32 < (4 : Int32))) (hdv35 : ((v32.toUInt32 >>> ((2 : Int32) &&& 31).toUInt32).toInt32) = v35) : (p_1.toInt < 0 ∧ ((9 : Int32) - ((v35.toUInt32 >>> ((1 : Int32) &&& 31).toUInt32).toInt32)).toInt = 0) ∨ (p_1.toInt = 0 ∧ ((9 : Int32) - ((v35.toUInt32 >>> ((1 : Int32) &&& 31).toUInt32).toInt32)).toInt = 32) ∨ (0 < p_1.toInt ∧ p_1.toInt < 128 ∧ 25 ≤ ((9 : Int32) - ((v35.toUInt32 >>> ((1 : Int32) &&& 31).toUInt32).toInt32)).toInt ∧ ((9 : Int32) - ((v35.toUInt32 >>> ((1 : Int32) &&& 31).toUInt32).toInt32)).toInt ≤ 31) ∨ (128 ≤ p_1.toInt ∧ p_1.toInt < 16384 ∧ 18 ≤ ((9 : Int32) - ((v35.toUInt32 >>> ((1 : Int32) &&& 31).toUInt32).toInt32)).toInt ∧ ((9 : Int32) - ((v35.toUInt32 >>> ((1 : Int32) &&& 31).toUInt32).toInt32)).toInt ≤ 24) ∨ (16384 ≤ p_1.toInt ∧ p_1.toInt < 2097152 ∧ 11 ≤ ((9 : Int32) - ((v35.toUInt32 >>> ((1 : Int32) &&& 31).toUInt32).toInt32)).toInt ∧ ((9 : Int32) - ((v35.toUInt32 >>> ((1 : Int32) &&& 31).toUInt32).toInt32)).toInt ≤ 17) ∨ (2097152 ≤ p_1.toInt ∧ p_1.toInt < 268435456 ∧ 4 ≤ ((9 : Int32) - ((v35.toUInt32 >>> ((1 : Int32) &&& 31).toUInt32).toInt32)).toInt ∧ ((9 : Int32) - ((v35.toUInt32 >>> ((1 : Int32) &&& 31).toUInt32).toInt32)).toInt ≤ 10) ∨ (268435456 ≤ p_1.toInt ∧ 0 ≤ ((9 : Int32) - ((v35.toUInt32 >>> ((1 : Int32) &&& 31).toUInt32).toInt32)).toInt ∧ ((9 : Int32) - ((v35.toUInt32 >>> ((1 : Int32) &&& 31).toUInt32).toInt32)).toInt ≤ 3) := by
  have el0 : (1 : Int32).toInt = 1 := by decide
  have el1 : (2 : Int32).toInt = 2 := by decide
  have el2 : (4 : Int32).toInt = 4 := by decide
  have el3 : (9 : Int32).toInt = 9 := by decide
  have el4 : (16 : Int32).toInt = 16 := by decide
  have el5 : (256 : Int32).toInt = 256 := by decide
  have el6 : (65536 : Int32).toInt = 65536 := by decide
  have rv_p_1 := rng32 p_1
  have rv_v25 := rng32 v25
  have rv_v32 := rng32 v32
  have rv_v35 := rng32 v35
  have fa11 := c_iushr p_1 (16 : Int32) 16 (by decide) (by decide)
  have fa12 := c_iushr v25 (4 : Int32) 4 (by decide) (by decide)
  have fa13 := c_iushr v32 (2 : Int32) 2 (by decide) (by decide)
  have fa14 := c_iushr v35 (1 : Int32) 1 (by decide) (by decide)
  have fa15 := c_isub (9 : Int32) ((v35.toUInt32 >>> ((1 : Int32) &&& 31).toUInt32).toInt32)
  have fa16 := rng32 ((9 : Int32) - ((v35.toUInt32 >>> ((1 : Int32) &&& 31).toUInt32).toInt32))
  have own0 : (0 : Int32).toInt = 0 := by decide
  simp only [← Int32.toInt_inj, Int32.lt_iff_toInt_lt, implies_true, and_true, true_and, own0, el0, el1, el2, el3, el4, el5, el6] at *
  omega
set_option maxRecDepth 65536 in
set_option maxHeartbeats 4000000 in
theorem own_t9_12 (p_1 : Int32) (v25 : Int32) (v37 : Int32) (hc1 : 0 < p_1) (hc2 : ¬ (p_1 < (65536 : Int32))) (hdv25 : ((p_1.toUInt32 >>> ((16 : Int32) &&& 31).toUInt32).toInt32) = v25) (hc26 : ¬ (v25 < (256 : Int32))) (hdv37 : ((v25.toUInt32 >>> ((8 : Int32) &&& 31).toUInt32).toInt32) = v37) (hc38 : v37 < (16 : Int32)) (hc39 : v37 < (4 : Int32)) : (p_1.toInt < 0 ∧ ((7 : Int32) - ((v37.toUInt32 >>> ((1 : Int32) &&& 31).toUInt32).toInt32)).toInt = 0) ∨ (p_1.toInt = 0 ∧ ((7 : Int32) - ((v37.toUInt32 >>> ((1 : Int32) &&& 31).toUInt32).toInt32)).toInt = 32) ∨ (0 < p_1.toInt ∧ p_1.toInt < 128 ∧ 25 ≤ ((7 : Int32) - ((v37.toUInt32 >>> ((1 : Int32) &&& 31).toUInt32).toInt32)).toInt ∧ ((7 : Int32) - ((v37.toUInt32 >>> ((1 : Int32) &&& 31).toUInt32).toInt32)).toInt ≤ 31) ∨ (128 ≤ p_1.toInt ∧ p_1.toInt < 16384 ∧ 18 ≤ ((7 : Int32) - ((v37.toUInt32 >>> ((1 : Int32) &&& 31).toUInt32).toInt32)).toInt ∧ ((7 : Int32) - ((v37.toUInt32 >>> ((1 : Int32) &&& 31).toUInt32).toInt32)).toInt ≤ 24) ∨ (16384 ≤ p_1.toInt ∧ p_1.toInt < 2097152 ∧ 11 ≤ ((7 : Int32) - ((v37.toUInt32 >>> ((1 : Int32) &&& 31).toUInt32).toInt32)).toInt ∧ ((7 : Int32) - ((v37.toUInt32 >>> ((1 : Int32) &&& 31).toUInt32).toInt32)).toInt ≤ 17) ∨ (2097152 ≤ p_1.toInt ∧ p_1.toInt < 268435456 ∧ 4 ≤ ((7 : Int32) - ((v37.toUInt32 >>> ((1 : Int32) &&& 31).toUInt32).toInt32)).toInt ∧ ((7 : Int32) - ((v37.toUInt32 >>> ((1 : Int32) &&& 31).toUInt32).toInt32)).toInt ≤ 10) ∨ (268435456 ≤ p_1.toInt ∧ 0 ≤ ((7 : Int32) - ((v37.toUInt32 >>> ((1 : Int32) &&& 31).toUInt32).toInt32)).toInt ∧ ((7 : Int32) - ((v37.toUInt32 >>> ((1 : Int32) &&& 31).toUInt32).toInt32)).toInt ≤ 3) := by
  have el0 : (1 : Int32).toInt = 1 := by decide
  have el1 : (4 : Int32).toInt = 4 := by decide
  have el2 : (7 : Int32).toInt = 7 := by decide
  have el3 : (8 : Int32).toInt = 8 := by decide
  have el4 : (16 : Int32).toInt = 16 := by decide
  have el5 : (256 : Int32).toInt = 256 := by decide
  have el6 : (65536 : Int32).toInt = 65536 := by decide
  have rv_p_1 := rng32 p_1
  have rv_v25 := rng32 v25
  have rv_v37 := rng32 v37
  have fa10 := c_iushr p_1 (16 : Int32) 16 (by decide) (by decide)
  have fa11 := c_iushr v25 (8 : Int32) 8 (by decide) (by decide)
  have fa12 := c_iushr v37 (1 : Int32) 1 (by decide) (by decide)
  have fa13 := c_isub (7 : Int32) ((v37.toUInt32 >>> ((1 : Int32) &&& 31).toUInt32).toInt32)
  have fa14 := rng32 ((7 : Int32) - ((v37.toUInt32 >>> ((1 : Int32) &&& 31).toUInt32).toInt32))
  have own0 : (0 : Int32).toInt = 0 := by decide
  simp only [← Int32.toInt_inj, Int32.lt_iff_toInt_lt, implies_true, and_true, true_and, own0, el0, el1, el2, el3, el4, el5, el6] at *
  omega
set_option maxRecDepth 65536 in
set_option maxHeartbeats 4000000 in
theorem own_t9_13 (p_1 : Int32) (v25 : Int32) (v37 : Int32) (v41 : Int32) (hc1 : 0 < p_1) (hc2 : ¬ (p_1 < (65536 : Int32))) (hdv25 : ((p_1.toUInt32 >>> ((16 : Int32) &&& 31).toUInt32).toInt32) = v25) (hc26 : ¬ (v25 < (256 : Int32))) (hdv37 : ((v25.toUInt32 >>> ((8 : Int32) &&& 31).toUInt32).toInt32) = v37) (hc38 : v37 < (16 : Int32)) (hc39 : ¬ (v37 < (4 : Int32))) (hdv41 : ((v37.toUInt32 >>> ((2 : Int32) &&& 31).toUInt32).toInt32) = v41) : (p_1.toInt < 0 ∧ ((5 : Int32) - ((v41.toUInt32 >>> ((1 : Int32) &&& 31).toUInt32).toInt32)).toInt = 0) ∨ (p_1.toInt = 0 ∧ ((5 : Int32) - ((v41.toUInt32 >>> ((1 : Int32) &&& 31).toUInt32).toInt32)).toInt = 32) ∨ (0 < p_1.toInt ∧ p_1.toInt < 128 ∧ 25 ≤ ((5 : Int32) - ((v41.toUInt32 >>> ((1 : Int32) &&& 31).toUInt32).toInt32)).toInt ∧ ((5 : Int32) - ((v41.toUInt32 >>> ((1 : Int32) &&& 31).toUInt32).toInt32)).toInt ≤ 31) ∨ (128 ≤ p_1.toInt ∧ p_1.toInt < 16384 ∧ 18 ≤ ((5 : Int32) - ((v41.toUInt32 >>> ((1 : Int32) &&& 31).toUInt32).toInt32)).toInt ∧ ((5 : Int32) - ((v41.toUInt32 >>> ((1 : Int32) &&& 31).toUInt32).toInt32)).toInt ≤ 24) ∨ (16384 ≤ p_1.toInt ∧ p_1.toInt < 2097152 ∧ 11 ≤ ((5 : Int32) - ((v41.toUInt32 >>> ((1 : Int32) &&& 31).toUInt32).toInt32)).toInt ∧ ((5 : Int32) - ((v41.toUInt32 >>> ((1 : Int32) &&& 31).toUInt32).toInt32)).toInt ≤ 17) ∨ (2097152 ≤ p_1.toInt ∧ p_1.toInt < 268435456 ∧ 4 ≤ ((5 : Int32) - ((v41.toUInt32 >>> ((1 : Int32) &&& 31).toUInt32).toInt32)).toInt ∧ ((5 : Int32) - ((v41.toUInt32 >>> ((1 : Int32) &&& 31).toUInt32).toInt32)).toInt ≤ 10) ∨ (268435456 ≤ p_1.toInt ∧ 0 ≤ ((5 : Int32) - ((v41.toUInt32 >>> ((1 : Int32) &&& 31).toUInt32).toInt32)).toInt ∧ ((5 : Int32) - ((v41.toUInt32 >>> ((1 : Int32) &&& 31).toUInt32).toInt32)).toInt ≤ 3) := by
  have el0 : (1 : Int32).toInt = 1 := by decide
  have el1 : (2 : Int32).toInt = 2 := by decide
  have el2 : (4 : Int32).toInt = 4 := by decide
  have el3 : (5 : Int32).toInt = 5 := by decide
  have el4 : (8 : Int32).toInt = 8 := by decide
  have el5 : (16 : Int32).toInt = 16 := by decide
  have el6 : (256 : Int32).toInt = 256 := by decide
  have el7 : (65536 : Int32).toInt = 65536 := by decide
  have rv_p_1 := rng32 p_1
  have rv_v25 := rng32 v25
  have rv_v37 := rng32 v37
  have rv_v41 := rng32 v41
  have fa12 := c_iushr p_1 (16 : Int32) 16 (by decide) (by decide)
  have fa13 := c_iushr v25 (8 : Int32) 8 (by decide) (by decide)
  have fa14 := c_iushr v37 (2 : Int32) 2 (by decide) (by decide)
  have fa15 := c_iushr v41 (1 : Int32) 1 (by decide) (by decide)
  have fa16 := c_isub (5 : Int32) ((v41.toUInt32 >>> ((1 : Int32) &&& 31).toUInt32).toInt32)
  have fa17 := rng32 ((5 : Int32) - ((v41.toUInt32 >>> ((1 : Int32) &&& 31).toUInt32).toInt32))
  have own0 : (0 : Int32).toInt = 0 := by decide
  simp only [← Int32.toInt_inj, Int32.lt_iff_toInt_lt, implies_true, and_true, true_and, own0, el0, el1, el2, el3, el4, el5, el6, el7] at *
  omega
set_option maxRecDepth 65536 in
set_option maxHeartbeats 4000000 in
theorem own_t9_14 (p_1 : Int32) (v25 : Int32) (v37 : Int32) (v43 : Int32) (hc1 : 0 < p_1) (hc2 : ¬ (p_1 < (65536 : Int32))) (hdv25 : ((p_1.toUInt32 >>> ((16 : Int32) &&& 31).toUInt32).toInt32) = v25) (hc26 : ¬ (v25 < (256 : Int32))) (hdv37 : ((v25.toUInt32 >>> ((8 : Int32) &&& 31).toUInt32).toInt32) = v37) (hc38 : ¬ (v37 < (16 : Int32))) (hdv43 : ((v37.toUInt32 >>> ((4 : Int32) &&& 31).toUInt32).toInt32) = v43) (hc44 : v43 < (4 : Int32)) : (p_1.toInt < 0 ∧ ((3 : Int32) - ((v43.toUInt32 >>> ((1 : Int32) &&& 31).toUInt32).toInt32)).toInt = 0) ∨ (p_1.toInt = 0 ∧ ((3 : Int32) - ((v43.toUInt32 >>> ((1 : Int32) &&& 31).toUInt32).toInt32)).toInt = 32) ∨ (0 < p_1.toInt ∧ p_1.toInt < 128 ∧ 25 ≤ ((3 : Int32) - ((v43.toUInt32 >>> ((1 : Int32) &&& 31).toUInt32).toInt32)).toInt ∧ ((3 : Int32) - ((v43.toUInt32 >>> ((1 : Int32) &&& 31).toUInt32).toInt32)).toInt ≤ 31) ∨ (128 ≤ p_1.toInt ∧ p_1.toInt < 16384 ∧ 18 ≤ ((3 : Int32) - ((v43.toUInt32 >>> ((1 : Int32) &&& 31).toUInt32).toInt32)).toInt ∧ ((3 : Int32) - ((v43.toUInt32 >>> ((1 : Int32) &&& 31).toUInt32).toInt32)).toInt ≤ 24) ∨ (16384 ≤ p_1.toInt ∧ p_1.toInt < 2097152 ∧ 11 ≤ ((3 : Int32) - ((v43.toUInt32 >>> ((1 : Int32) &&& 31).toUInt32).toInt32)).toInt ∧ ((3 : Int32) - ((v43.toUInt32 >>> ((1 : Int32) &&& 31).toUInt32).toInt32)).toInt ≤ 17) ∨ (2097152 ≤ p_1.toInt ∧ p_1.toInt < 268435456 ∧ 4 ≤ ((3 : Int32) - ((v43.toUInt32 >>> ((1 : Int32) &&& 31).toUInt32).toInt32)).toInt ∧ ((3 : Int32) - ((v43.toUInt32 >>> ((1 : Int32) &&& 31).toUInt32).toInt32)).toInt ≤ 10) ∨ (268435456 ≤ p_1.toInt ∧ 0 ≤ ((3 : Int32) - ((v43.toUInt32 >>> ((1 : Int32) &&& 31).toUInt32).toInt32)).toInt ∧ ((3 : Int32) - ((v43.toUInt32 >>> ((1 : Int32) &&& 31).toUInt32).toInt32)).toInt ≤ 3) := by
  have el0 : (1 : Int32).toInt = 1 := by decide
  have el1 : (3 : Int32).toInt = 3 := by decide
  have el2 : (4 : Int32).toInt = 4 := by decide
  have el3 : (8 : Int32).toInt = 8 := by decide
  have el4 : (16 : Int32).toInt = 16 := by decide
  have el5 : (256 : Int32).toInt = 256 := by decide
  have el6 : (65536 : Int32).toInt = 65536 := by decide
  have rv_p_1 := rng32 p_1
  have rv_v25 := rng32 v25
  have rv_v37 := rng32 v37
  have rv_v43 := rng32 v43
  have fa11 := c_iushr p_1 (16 : Int32) 16 (by decide) (by decide)
  have fa12 := c_iushr v25 (8 : Int32) 8 (by decide) (by decide)
  have fa13 := c_iushr v37 (4 : Int32) 4 (by decide) (by decide)
  have fa14 := c_iushr v43 (1 : Int32) 1 (by decide) (by decide)
  have fa15 := c_isub (3 : Int32) ((v43.toUInt32 >>> ((1 : Int32) &&& 31).toUInt32).toInt32)
  have fa16 := rng32 ((3 : Int32) - ((v43.toUInt32 >>> ((1 : Int32) &&& 31).toUInt32).toInt32))
  have own0 : (0 : Int32).toInt = 0 := by decide
  simp only [← Int32.toInt_inj, Int32.lt_iff_toInt_lt, implies_true, and_true, true_and, own0, el0, el1, el2, el3, el4, el5, el6] at *
  omega
set_option maxRecDepth 65536 in
set_option maxHeartbeats 4000000 in
theorem own_t9_15 (p_1 : Int32) (v25 : Int32) (v37 : Int32) (v43 : Int32) (v46 : Int32) (hc1 : 0 < p_1) (hc2 : ¬ (p_1 < (65536 : Int32))) (hdv25 : ((p_1.toUInt32 >>> ((16 : Int32) &&& 31).toUInt32).toInt32) = v25) (hc26 : ¬ (v25 < (256 : Int32))) (hdv37 : ((v25.toUInt32 >>> ((8 : Int32) &&& 31).toUInt32).toInt32) = v37) (hc38 : ¬ (v37 < (16 : Int32))) (hdv43 : ((v37.toUInt32 >>> ((4 : Int32) &&& 31).toUInt32).toInt32) = v43) (hc44 : ¬ (v43 < (4 : Int32))) (hdv46 : ((v43.toUInt32 >>> ((2 : Int32) &&& 31).toUInt32).toInt32) = v46) : (p_1.toInt < 0 ∧ ((1 : Int32) - ((v46.toUInt32 >>> ((1 : Int32) &&& 31).toUInt32).toInt32)).toInt = 0) ∨ (p_1.toInt = 0 ∧ ((1 : Int32) - ((v46.toUInt32 >>> ((1 : Int32) &&& 31).toUInt32).toInt32)).toInt = 32) ∨ (0 < p_1.toInt ∧ p_1.toInt < 128 ∧ 25 ≤ ((1 : Int32) - ((v46.toUInt32 >>> ((1 : Int32) &&& 31).toUInt32).toInt32)).toInt ∧ ((1 : Int32) - ((v46.toUInt32 >>> ((1 : Int32) &&& 31).toUInt32).toInt32)).toInt ≤ 31) ∨ (128 ≤ p_1.toInt ∧ p_1.toInt < 16384 ∧ 18 ≤ ((1 : Int32) - ((v46.toUInt32 >>> ((1 : Int32) &&& 31).toUInt32).toInt32)).toInt ∧ ((1 : Int32) - ((v46.toUInt32 >>> ((1 : Int32) &&& 31).toUInt32).toInt32)).toInt ≤ 24) ∨ (16384 ≤ p_1.toInt ∧ p_1.toInt < 2097152 ∧ 11 ≤ ((1 : Int32) - ((v46.toUInt32 >>> ((1 : Int32) &&& 31).toUInt32).toInt32)).toInt ∧ ((1 : Int32) - ((v46.toUInt32 >>> ((1 : Int32) &&& 31).toUInt32).toInt32)).toInt ≤ 17) ∨ (2097152 ≤ p_1.toInt ∧ p_1.toInt < 268435456 ∧ 4 ≤ ((1 : Int32) - ((v46.toUInt32 >>> ((1 : Int32) &&& 31).toUInt32).toInt32)).toInt ∧ ((1 : Int32) - ((v46.toUInt32 >>> ((1 : Int32) &&& 31).toUInt32).toInt32)).toInt ≤ 10) ∨ (268435456 ≤ p_1.toInt ∧ 0 ≤ ((1 : Int32) - ((v46.toUInt32 >>> ((1 : Int32) &&& 31).toUInt32).toInt32)).toInt ∧ ((1 : Int32) - ((v46.toUInt32 >>> ((1 : Int32) &&& 31).toUInt32).toInt32)).toInt ≤ 3) := by
  have el0 : (1 : Int32).toInt = 1 := by decide
  have el1 : (2 : Int32).toInt = 2 := by decide
  have el2 : (4 : Int32).toInt = 4 := by decide
  have el3 : (8 : Int32).toInt = 8 := by decide
  have el4 : (16 : Int32).toInt = 16 := by decide
  have el5 : (256 : Int32).toInt = 256 := by decide
  have el6 : (65536 : Int32).toInt = 65536 := by decide
  have rv_p_1 := rng32 p_1
  have rv_v25 := rng32 v25
  have rv_v37 := rng32 v37
  have rv_v43 := rng32 v43
  have rv_v46 := rng32 v46
  have fa12 := c_iushr p_1 (16 : Int32) 16 (by decide) (by decide)
  have fa13 := c_iushr v25 (8 : Int32) 8 (by decide) (by decide)
  have fa14 := c_iushr v37 (4 : Int32) 4 (by decide) (by decide)
  have fa15 := c_iushr v43 (2 : Int32) 2 (by decide) (by decide)
  have fa16 := c_iushr v46 (1 : Int32) 1 (by decide) (by decide)
  have fa17 := c_isub (1 : Int32) ((v46.toUInt32 >>> ((1 : Int32) &&& 31).toUInt32).toInt32)
  have fa18 := rng32 ((1 : Int32) - ((v46.toUInt32 >>> ((1 : Int32) &&& 31).toUInt32).toInt32))
  have own0 : (0 : Int32).toInt = 0 := by decide
  simp only [← Int32.toInt_inj, Int32.lt_iff_toInt_lt, implies_true, and_true, true_and, own0, el0, el1, el2, el3, el4, el5, el6] at *
  omega
set_option maxRecDepth 65536 in
set_option maxHeartbeats 4000000 in
theorem own_t9_16 (p_1 : Int32) (hc1 : ¬ (0 < p_1)) (hc48 : p_1 = 0) : (p_1.toInt < 0 ∧ (32 : Int32).toInt = 0) ∨ (p_1.toInt = 0 ∧ (32 : Int32).toInt = 32) ∨ (0 < p_1.toInt ∧ p_1.toInt < 128 ∧ 25 ≤ (32 : Int32).toInt ∧ (32 : Int32).toInt ≤ 31) ∨ (128 ≤ p_1.toInt ∧ p_1.toInt < 16384 ∧ 18 ≤ (32 : Int32).toInt ∧ (32 : Int32).toInt ≤ 24) ∨ (16384 ≤ p_1.toInt ∧ p_1.toInt < 2097152 ∧ 11 ≤ (32 : Int32).toInt ∧ (32 : Int32).toInt ≤ 17) ∨ (2097152 ≤ p_1.toInt ∧ p_1.toInt < 268435456 ∧ 4 ≤ (32 : Int32).toInt ∧ (32 : Int32).toInt ≤ 10) ∨ (268435456 ≤ p_1.toInt ∧ 0 ≤ (32 : Int32).toInt ∧ (32 : Int32).toInt ≤ 3) := by
  have el0 : (32 : Int32).toInt = 32 := by decide
  have rv_p_1 := rng32 p_1
  have own0 : (0 : Int32).toInt = 0 := by decide
  simp only [← Int32.toInt_inj, Int32.lt_iff_toInt_lt, implies_true, and_true, true_and, own0, el0] at *
  omega
set_option maxRecDepth 65536 in
set_option maxHeartbeats 4000000 in
theorem own_t9_17 (p_1 : Int32) (hc1 : ¬ (0 < p_1)) (hc48 : ¬ (p_1 = 0)) : (p_1.toInt < 0 ∧ (0 : Int32).toInt = 0) ∨ (p_1.toInt = 0 ∧ (0 : Int32).toInt = 32) ∨ (0 < p_1.toInt ∧ p_1.toInt < 128 ∧ 25 ≤ (0 : Int32).toInt ∧ (0 : Int32).toInt ≤ 31) ∨ (128 ≤ p_1.toInt ∧ p_1.toInt < 16384 ∧ 18 ≤ (0 : Int32).toInt ∧ (0 : Int32).toInt ≤ 24) ∨ (16384 ≤ p_1.toInt ∧ p_1.toInt < 2097152 ∧ 11 ≤ (0 : Int32).toInt ∧ (0 : Int32).toInt ≤ 17) ∨ (2097152 ≤ p_1.toInt ∧ p_1.toInt < 268435456 ∧ 4 ≤ (0 : Int32).toInt ∧ (0 : Int32).toInt ≤ 10) ∨ (268435456 ≤ p_1.toInt ∧ 0 ≤ (0 : Int32).toInt ∧ (0 : Int32).toInt ≤ 3) := by
  have el0 : (0 : Int32).toInt = 0 := by decide
  have rv_p_1 := rng32 p_1
  have own0 : (0 : Int32).toInt = 0 := by decide
  simp only [← Int32.toInt_inj, Int32.lt_iff_toInt_lt, implies_true, and_true, true_and, own0, el0] at *
  omega
def own_Q9 (Z : State) (p_1 : Int32) (h0 : Heap) (n0 : Nat) (v : Option Value) (h : Heap) (L : List Loc) : Prop := ∃ (r : Int32), v = some (.int r) ∧ Fr n0 L ∧ h = h0 ∧ ((p_1.toInt < 0 ∧ r.toInt = 0) ∨ (p_1.toInt = 0 ∧ r.toInt = 32) ∨ (0 < p_1.toInt ∧ p_1.toInt < 128 ∧ 25 ≤ r.toInt ∧ r.toInt ≤ 31) ∨ (128 ≤ p_1.toInt ∧ p_1.toInt < 16384 ∧ 18 ≤ r.toInt ∧ r.toInt ≤ 24) ∨ (16384 ≤ p_1.toInt ∧ p_1.toInt < 2097152 ∧ 11 ≤ r.toInt ∧ r.toInt ≤ 17) ∨ (2097152 ≤ p_1.toInt ∧ p_1.toInt < 268435456 ∧ 4 ≤ r.toInt ∧ r.toInt ≤ 10) ∨ (268435456 ≤ p_1.toInt ∧ 0 ≤ r.toInt ∧ r.toInt ≤ 3))
set_option maxRecDepth 65536 in
set_option maxHeartbeats 40000000 in
theorem own_rm9 (l : Launch) (Z : State) (a0 : Array Value) (hw : ∀ d ∈ tables_1, d.before a0 Z = true) (ws : List Jvm.Cond) (p_1 : Int32) (h0 : Heap) (n0 : Nat) (Z0 : n0 ≤ h0.size) :
    MetFree l (⟨"java/lang/Integer", "numberOfLeadingZeros", "(I)I"⟩ : MethodName) (head1 (Jvm.Cond.code (⟨"java/lang/Integer", "numberOfLeadingZeros", "(I)I"⟩ : MethodName) jdk_33_method_47_code 2 (some .int) :: ws) ({ frames := 0, cells := 0, slots := 0, locals := 0 } : Room)) (fun a U => a = #[(.int p_1)] ∧ Z.Warmed39 U.vm ∧ U.heap = h0) (fun _ _ _ _ _ => True) (fun _ U o U' => ∃ v L, o = .returned v ∧ own_Q9 Z p_1 h0 n0 v U'.heap L ∧ FrameEnd U o U' L ({ frames := 0, cells := 0, slots := 0, locals := 0 } : Room).cells ({ frames := 0, cells := 0, slots := 0, locals := 0 } : Room).slots) := by
  refine MetFree.of_bodySF (plainFor_of_name own_pn0) hisR ?_
  intro p e s m args below meth c s₁ Bd hml0 hP hK
  obtain ⟨rfl, hZ, hh⟩ := hP
  have hx := Bd.exec
  have hby := Bd.bytes
  have hml : c.maxLocals = 2 := hml0
  have hown : s.vm.findClass "java/lang/Integer" = some m.cls := findClass_of_methodNamed Bd.named
  have hnm := (name_of_methodNamed Bd.named Bd.method).1
  have X0 : Stand p l e ({ frames := 0, cells := 0, slots := 0, locals := 0 } : Room) s m #[(.int p_1)] below meth c s₁ [] 0 0 := Stand.of_body Bd
  have e0 : s₁.heap = h0 := by rw [← hh, Bd.state]; rfl
  have N0 := Fr.nil n0
  have z0 : n0 ≤ h0.size := Z0
  show own_Go p.tables e below (fun t o => t.status = .running ∧ Ended t below o ∧ ∃ v L, o = .returned v ∧ own_Q9 Z p_1 h0 n0 v t.heap L ∧ FrameEnd s o t L ({ frames := 0, cells := 0, slots := 0, locals := 0 } : Room).cells ({ frames := 0, cells := 0, slots := 0, locals := 0 } : Room).slots) s₁ (entryFrame m #[(.int p_1)] 2)
  rw [own_ef_own_rm9 m p_1]
  show own_Go _ _ _ _ s₁ (mkF m 0 #[.val (.int p_1), .unset] [])
  refine own_go (fun _ k => XS.iloadN X0.here hx rfl (hb hby own_d9_0) rfl k) ?_
  show own_Go _ _ _ _ s₁ (mkF m 1 #[.val (.int p_1), .unset] [(.int p_1)])
  by_cases hc1 : 0 < p_1
  · refine own_go (fun _ k => XS.ifYes X0.here hx rfl (pc0 := 1) (pc' := 15) rfl (hb hby own_d9_1) rfl (Jvm.Free.XT.i0_gt_t hc1) (by decide) (by decide) k) ?_
    show own_Go _ _ _ _ s₁ (mkF m 15 #[.val (.int p_1), .unset] [])
    refine own_go (fun _ k => XS.bipush X0.here hx rfl (hb hby own_d9_15) k) ?_
    show own_Go _ _ _ _ s₁ (mkF m 17 #[.val (.int p_1), .unset] [(.int (31 : Int32))])
    refine own_go (fun _ k => XS.istoreN X0.here hx rfl (hb hby own_d9_17) rfl (l' := #[.val (.int p_1), .val (.int (31 : Int32))]) rfl k) ?_
    show own_Go _ _ _ _ s₁ (mkF m 18 #[.val (.int p_1), .val (.int (31 : Int32))] [])
    refine own_go (fun _ k => XS.iloadN X0.here hx rfl (hb hby own_d9_18) rfl k) ?_
    show own_Go _ _ _ _ s₁ (mkF m 19 #[.val (.int p_1), .val (.int (31 : Int32))] [(.int p_1)])
    refine own_go (fun _ k => X0.ldcwInt hx hown (mvT hZ (hw _ (List.mem_of_getElem? (i := 52) rfl))) (g := (mkF m 19 #[.val (.int p_1), .val (.int (31 : Int32))] [(.int p_1)])) rfl (hb hby own_d9_19) _ k) ?_
    show own_Go _ _ _ _ s₁ (mkF m 22 #[.val (.int p_1), .val (.int (31 : Int32))] [(.int (65536 : Int32)), (.int p_1)])
    by_cases hc2 : p_1 < (65536 : Int32)
    · refine own_go (fun _ k => XS.icmpYes X0.here hx rfl (pc0 := 22) (pc' := 33) rfl (hb hby own_d9_22) rfl (Jvm.Free.XT.ii_lt_t hc2) (by decide) (by decide) k) ?_
      show own_Go _ _ _ _ s₁ (mkF m 33 #[.val (.int p_1), .val (.int (31 : Int32))] [])
      refine own_go (fun _ k => XS.iloadN X0.here hx rfl (hb hby own_d9_33) rfl k) ?_
      show own_Go _ _ _ _ s₁ (mkF m 34 #[.val (.int p_1), .val (.int (31 : Int32))] [(.int p_1)])
      refine own_go (fun _ k => XS.sipush X0.here hx rfl (hb hby own_d9_34) k) ?_
      show own_Go _ _ _ _ s₁ (mkF m 37 #[.val (.int p_1), .val (.int (31 : Int32))] [(.int (256 : Int32)), (.int p_1)])
      by_cases hc3 : p_1 < (256 : Int32)
      · refine own_go (fun _ k => XS.icmpYes X0.here hx rfl (pc0 := 37) (pc' := 48) rfl (hb hby own_d9_37) rfl (Jvm.Free.XT.ii_lt_t hc3) (by decide) (by decide) k) ?_
        show own_Go _ _ _ _ s₁ (mkF m 48 #[.val (.int p_1), .val (.int (31 : Int32))] [])
        refine own_go (fun _ k => XS.iloadN X0.here hx rfl (hb hby own_d9_48) rfl k) ?_
        show own_Go _ _ _ _ s₁ (mkF m 49 #[.val (.int p_1), .val (.int (31 : Int32))] [(.int p_1)])
        refine own_go (fun _ k => XS.bipush X0.here hx rfl (hb hby own_d9_49) k) ?_
        show own_Go _ _ _ _ s₁ (mkF m 51 #[.val (.int p_1), .val (.int (31 : Int32))] [(.int (16 : Int32)), (.int p_1)])
        by_cases hc4 : p_1 < (16 : Int32)
        · refine own_go (fun _ k => XS.icmpYes X0.here hx rfl (pc0 := 51) (pc' := 61) rfl (hb hby own_d9_51) rfl (Jvm.Free.XT.ii_lt_t hc4) (by decide) (by decide) k) ?_
          show own_Go _ _ _ _ s₁ (mkF m 61 #[.val (.int p_1), .val (.int (31 : Int32))] [])
          refine own_go (fun _ k => XS.iloadN X0.here hx rfl (hb hby own_d9_61) rfl k) ?_
          show own_Go _ _ _ _ s₁ (mkF m 62 #[.val (.int p_1), .val (.int (31 : Int32))] [(.int p_1)])
          refine own_go (fun _ k => XS.iconst X0.here hx rfl (hb hby own_d9_62) k) ?_
          show own_Go _ _ _ _ s₁ (mkF m 63 #[.val (.int p_1), .val (.int (31 : Int32))] [(.int (4 : Int32)), (.int p_1)])
          by_cases hc5 : p_1 < (4 : Int32)
          · refine own_go (fun _ k => XS.icmpYes X0.here hx rfl (pc0 := 63) (pc' := 73) rfl (hb hby own_d9_63) rfl (Jvm.Free.XT.ii_lt_t hc5) (by decide) (by decide) k) ?_
            show own_Go _ _ _ _ s₁ (mkF m 73 #[.val (.int p_1), .val (.int (31 : Int32))] [])
            refine own_go (fun _ k => XS.iloadN X0.here hx rfl (hb hby own_d9_73) rfl k) ?_
            show own_Go _ _ _ _ s₁ (mkF m 74 #[.val (.int p_1), .val (.int (31 : Int32))] [(.int (31 : Int32))])
            refine own_go (fun _ k => XS.iloadN X0.here hx rfl (hb hby own_d9_74) rfl k) ?_
            show own_Go _ _ _ _ s₁ (mkF m 75 #[.val (.int p_1), .val (.int (31 : Int32))] [(.int p_1), (.int (31 : Int32))])
            refine own_go (fun _ k => XS.iconst X0.here hx rfl (hb hby own_d9_75) k) ?_
            show own_Go _ _ _ _ s₁ (mkF m 76 #[.val (.int p_1), .val (.int (31 : Int32))] [(.int (1 : Int32)), (.int p_1), (.int (31 : Int32))])
            refine own_go (fun _ k => XS.iushr X0.here hx rfl (hb hby own_d9_76) rfl k) ?_
            show own_Go _ _ _ _ s₁ (mkF m 77 #[.val (.int p_1), .val (.int (31 : Int32))] [(.int ((p_1.toUInt32 >>> ((1 : Int32) &&& 31).toUInt32).toInt32)), (.int (31 : Int32))])
            refine own_go (fun _ k => XS.isub X0.here hx rfl (hb hby own_d9_77) rfl k) ?_
            show own_Go _ _ _ _ s₁ (mkF m 78 #[.val (.int p_1), .val (.int (31 : Int32))] [(.int ((31 : Int32) - ((p_1.toUInt32 >>> ((1 : Int32) &&& 31).toUInt32).toInt32)))])
            obtain ⟨fs, hr, hrun, hended, hW, hsame⟩ := X0.leave (v := some (.int ((31 : Int32) - ((p_1.toUInt32 >>> ((1 : Int32) &&& 31).toUInt32).toInt32)))) (fun h => by rw [Bd.returns] at h; cases h)
            refine ⟨_, _, retOut X0 hx Bd.returns rfl (Or.inl ⟨rfl, Or.inl rfl, _, rfl⟩) (hb hby own_d9_78) hr, hrun, hended, _, _, rfl, ?_, ⟨_, rfl⟩, hW, hsame.mono (by decide) (by decide)⟩
            show own_Q9 Z p_1 h0 n0 _ s₁.heap _
            rw [e0]
            exact ⟨((31 : Int32) - ((p_1.toUInt32 >>> ((1 : Int32) &&& 31).toUInt32).toInt32)), rfl, N0, rfl, (own_t9_0 p_1 hc1 hc2 hc3 hc4 hc5)⟩
          · refine own_go (fun _ k => XS.icmpNo X0.here hx rfl (hb hby own_d9_63) rfl (Jvm.Free.XT.ii_lt_f hc5) k) ?_
            show own_Go _ _ _ _ s₁ (mkF m 66 #[.val (.int p_1), .val (.int (31 : Int32))] [])
            refine own_go (fun _ k => XS.iinc X0.here hx rfl (hb hby own_d9_66) rfl (l' := #[.val (.int p_1), .val (.int (29 : Int32))]) rfl k) ?_
            show own_Go _ _ _ _ s₁ (mkF m 69 #[.val (.int p_1), .val (.int (29 : Int32))] [])
            refine own_go (fun _ k => XS.iloadN X0.here hx rfl (hb hby own_d9_69) rfl k) ?_
            show own_Go _ _ _ _ s₁ (mkF m 70 #[.val (.int p_1), .val (.int (29 : Int32))] [(.int p_1)])
            refine own_go (fun _ k => XS.iconst X0.here hx rfl (hb hby own_d9_70) k) ?_
            show own_Go _ _ _ _ s₁ (mkF m 71 #[.val (.int p_1), .val (.int (29 : Int32))] [(.int (2 : Int32)), (.int p_1)])
            refine own_go (fun _ k => XS.iushr X0.here hx rfl (hb hby own_d9_71) rfl k) ?_
            show own_Go _ _ _ _ s₁ (mkF m 72 #[.val (.int p_1), .val (.int (29 : Int32))] [(.int ((p_1.toUInt32 >>> ((2 : Int32) &&& 31).toUInt32).toInt32))])
            refine own_go (fun _ k => XS.istoreN X0.here hx rfl (hb hby own_d9_72) rfl (l' := #[.val (.int ((p_1.toUInt32 >>> ((2 : Int32) &&& 31).toUInt32).toInt32)), .val (.int (29 : Int32))]) rfl k) ?_
            show own_Go _ _ _ _ s₁ (mkF m 73 #[.val (.int ((p_1.toUInt32 >>> ((2 : Int32) &&& 31).toUInt32).toInt32)), .val (.int (29 : Int32))] [])
            generalize hdv7 : ((p_1.toUInt32 >>> ((2 : Int32) &&& 31).toUInt32).toInt32) = v7
            show own_Go _ _ _ _ s₁ (mkF m 73 #[.val (.int v7), .val (.int (29 : Int32))] [])
            refine own_go (fun _ k => XS.iloadN X0.here hx rfl (hb hby own_d9_73) rfl k) ?_
            show own_Go _ _ _ _ s₁ (mkF m 74 #[.val (.int v7), .val (.int (29 : Int32))] [(.int (29 : Int32))])
            refine own_go (fun _ k => XS.iloadN X0.here hx rfl (hb hby own_d9_74) rfl k) ?_
            show own_Go _ _ _ _ s₁ (mkF m 75 #[.val (.int v7), .val (.int (29 : Int32))] [(.int v7), (.int (29 : Int32))])
            refine own_go (fun _ k => XS.iconst X0.here hx rfl (hb hby own_d9_75) k) ?_
            show own_Go _ _ _ _ s₁ (mkF m 76 #[.val (.int v7), .val (.int (29 : Int32))] [(.int (1 : Int32)), (.int v7), (.int (29 : Int32))])
            refine own_go (fun _ k => XS.iushr X0.here hx rfl (hb hby own_d9_76) rfl k) ?_
            show own_Go _ _ _ _ s₁ (mkF m 77 #[.val (.int v7), .val (.int (29 : Int32))] [(.int ((v7.toUInt32 >>> ((1 : Int32) &&& 31).toUInt32).toInt32)), (.int (29 : Int32))])
            refine own_go (fun _ k => XS.isub X0.here hx rfl (hb hby own_d9_77) rfl k) ?_
            show own_Go _ _ _ _ s₁ (mkF m 78 #[.val (.int v7), .val (.int (29 : Int32))] [(.int ((29 : Int32) - ((v7.toUInt32 >>> ((1 : Int32) &&& 31).toUInt32).toInt32)))])
            obtain ⟨fs, hr, hrun, hended, hW, hsame⟩ := X0.leave (v := some (.int ((29 : Int32) - ((v7.toUInt32 >>> ((1 : Int32) &&& 31).toUInt32).toInt32)))) (fun h => by rw [Bd.returns] at h; cases h)
            refine ⟨_, _, retOut X0 hx Bd.returns rfl (Or.inl ⟨rfl, Or.inl rfl, _, rfl⟩) (hb hby own_d9_78) hr, hrun, hended, _, _, rfl, ?_, ⟨_, rfl⟩, hW, hsame.mono (by decide) (by decide)⟩
            show own_Q9 Z p_1 h0 n0 _ s₁.heap _
            rw [e0]
            exact ⟨((29 : Int32) - ((v7.toUInt32 >>> ((1 : Int32) &&& 31).toUInt32).toInt32)), rfl, N0, rfl, (own_t9_1 p_1 v7 hc1 hc2 hc3 hc4 hc5 hdv7)⟩
        · refine own_go (fun _ k => XS.icmpNo X0.here hx rfl (hb hby own_d9_51) rfl (Jvm.Free.XT.ii_lt_f hc4) k) ?_
          show own_Go _ _ _ _ s₁ (mkF m 54 #[.val (.int p_1), .val (.int (31 : Int32))] [])
          refine own_go (fun _ k => XS.iinc X0.here hx rfl (hb hby own_d9_54) rfl (l' := #[.val (.int p_1), .val (.int (27 : Int32))]) rfl k) ?_
          show own_Go _ _ _ _ s₁ (mkF m 57 #[.val (.int p_1), .val (.int (27 : Int32))] [])
          refine own_go (fun _ k => XS.iloadN X0.here hx rfl (hb hby own_d9_57) rfl k) ?_
          show own_Go _ _ _ _ s₁ (mkF m 58 #[.val (.int p_1), .val (.int (27 : Int32))] [(.int p_1)])
          refine own_go (fun _ k => XS.iconst X0.here hx rfl (hb hby own_d9_58) k) ?_
          show own_Go _ _ _ _ s₁ (mkF m 59 #[.val (.int p_1), .val (.int (27 : Int32))] [(.int (4 : Int32)), (.int p_1)])
          refine own_go (fun _ k => XS.iushr X0.here hx rfl (hb hby own_d9_59) rfl k) ?_
          show own_Go _ _ _ _ s₁ (mkF m 60 #[.val (.int p_1), .val (.int (27 : Int32))] [(.int ((p_1.toUInt32 >>> ((4 : Int32) &&& 31).toUInt32).toInt32))])
          refine own_go (fun _ k => XS.istoreN X0.here hx rfl (hb hby own_d9_60) rfl (l' := #[.val (.int ((p_1.toUInt32 >>> ((4 : Int32) &&& 31).toUInt32).toInt32)), .val (.int (27 : Int32))]) rfl k) ?_
          show own_Go _ _ _ _ s₁ (mkF m 61 #[.val (.int ((p_1.toUInt32 >>> ((4 : Int32) &&& 31).toUInt32).toInt32)), .val (.int (27 : Int32))] [])
          generalize hdv9 : ((p_1.toUInt32 >>> ((4 : Int32) &&& 31).toUInt32).toInt32) = v9
          show own_Go _ _ _ _ s₁ (mkF m 61 #[.val (.int v9), .val (.int (27 : Int32))] [])
          refine own_go (fun _ k => XS.iloadN X0.here hx rfl (hb hby own_d9_61) rfl k) ?_
          show own_Go _ _ _ _ s₁ (mkF m 62 #[.val (.int v9), .val (.int (27 : Int32))] [(.int v9)])
          refine own_go (fun _ k => XS.iconst X0.here hx rfl (hb hby own_d9_62) k) ?_
          show own_Go _ _ _ _ s₁ (mkF m 63 #[.val (.int v9), .val (.int (27 : Int32))] [(.int (4 : Int32)), (.int v9)])
          by_cases hc10 : v9 < (4 : Int32)
          · refine own_go (fun _ k => XS.icmpYes X0.here hx rfl (pc0 := 63) (pc' := 73) rfl (hb hby own_d9_63) rfl (Jvm.Free.XT.ii_lt_t hc10) (by decide) (by decide) k) ?_
            show own_Go _ _ _ _ s₁ (mkF m 73 #[.val (.int v9), .val (.int (27 : Int32))] [])
            refine own_go (fun _ k => XS.iloadN X0.here hx rfl (hb hby own_d9_73) rfl k) ?_
            show own_Go _ _ _ _ s₁ (mkF m 74 #[.val (.int v9), .val (.int (27 : Int32))] [(.int (27 : Int32))])
            refine own_go (fun _ k => XS.iloadN X0.here hx rfl (hb hby own_d9_74) rfl k) ?_
            show own_Go _ _ _ _ s₁ (mkF m 75 #[.val (.int v9), .val (.int (27 : Int32))] [(.int v9), (.int (27 : Int32))])
            refine own_go (fun _ k => XS.iconst X0.here hx rfl (hb hby own_d9_75) k) ?_
            show own_Go _ _ _ _ s₁ (mkF m 76 #[.val (.int v9), .val (.int (27 : Int32))] [(.int (1 : Int32)), (.int v9), (.int (27 : Int32))])
            refine own_go (fun _ k => XS.iushr X0.here hx rfl (hb hby own_d9_76) rfl k) ?_
            show own_Go _ _ _ _ s₁ (mkF m 77 #[.val (.int v9), .val (.int (27 : Int32))] [(.int ((v9.toUInt32 >>> ((1 : Int32) &&& 31).toUInt32).toInt32)), (.int (27 : Int32))])
            refine own_go (fun _ k => XS.isub X0.here hx rfl (hb hby own_d9_77) rfl k) ?_
            show own_Go _ _ _ _ s₁ (mkF m 78 #[.val (.int v9), .val (.int (27 : Int32))] [(.int ((27 : Int32) - ((v9.toUInt32 >>> ((1 : Int32) &&& 31).toUInt32).toInt32)))])
            obtain ⟨fs, hr, hrun, hended, hW, hsame⟩ := X0.leave (v := some (.int ((27 : Int32) - ((v9.toUInt32 >>> ((1 : Int32) &&& 31).toUInt32).toInt32)))) (fun h => by rw [Bd.returns] at h; cases h)
            refine ⟨_, _, retOut X0 hx Bd.returns rfl (Or.inl ⟨rfl, Or.inl rfl, _, rfl⟩) (hb hby own_d9_78) hr, hrun, hended, _, _, rfl, ?_, ⟨_, rfl⟩, hW, hsame.mono (by decide) (by decide)⟩
            show own_Q9 Z p_1 h0 n0 _ s₁.heap _
            rw [e0]
            exact ⟨((27 : Int32) - ((v9.toUInt32 >>> ((1 : Int32) &&& 31).toUInt32).toInt32)), rfl, N0, rfl, (own_t9_2 p_1 v9 hc1 hc2 hc3 hc4 hdv9 hc10)⟩
          · refine own_go (fun _ k => XS.icmpNo X0.here hx rfl (hb hby own_d9_63) rfl (Jvm.Free.XT.ii_lt_f hc10) k) ?_
            show own_Go _ _ _ _ s₁ (mkF m 66 #[.val (.int v9), .val (.int (27 : Int32))] [])
            refine own_go (fun _ k => XS.iinc X0.here hx rfl (hb hby own_d9_66) rfl (l' := #[.val (.int v9), .val (.int (25 : Int32))]) rfl k) ?_
            show own_Go _ _ _ _ s₁ (mkF m 69 #[.val (.int v9), .val (.int (25 : Int32))] [])
            refine own_go (fun _ k => XS.iloadN X0.here hx rfl (hb hby own_d9_69) rfl k) ?_
            show own_Go _ _ _ _ s₁ (mkF m 70 #[.val (.int v9), .val (.int (25 : Int32))] [(.int v9)])
            refine own_go (fun _ k => XS.iconst X0.here hx rfl (hb hby own_d9_70) k) ?_
            show own_Go _ _ _ _ s₁ (mkF m 71 #[.val (.int v9), .val (.int (25 : Int32))] [(.int (2 : Int32)), (.int v9)])
            refine own_go (fun _ k => XS.iushr X0.here hx rfl (hb hby own_d9_71) rfl k) ?_
            show own_Go _ _ _ _ s₁ (mkF m 72 #[.val (.int v9), .val (.int (25 : Int32))] [(.int ((v9.toUInt32 >>> ((2 : Int32) &&& 31).toUInt32).toInt32))])
            refine own_go (fun _ k => XS.istoreN X0.here hx rfl (hb hby own_d9_72) rfl (l' := #[.val (.int ((v9.toUInt32 >>> ((2 : Int32) &&& 31).toUInt32).toInt32)), .val (.int (25 : Int32))]) rfl k) ?_
            show own_Go _ _ _ _ s₁ (mkF m 73 #[.val (.int ((v9.toUInt32 >>> ((2 : Int32) &&& 31).toUInt32).toInt32)), .val (.int (25 : Int32))] [])
            generalize hdv12 : ((v9.toUInt32 >>> ((2 : Int32) &&& 31).toUInt32).toInt32) = v12
            show own_Go _ _ _ _ s₁ (mkF m 73 #[.val (.int v12), .val (.int (25 : Int32))] [])
            refine own_go (fun _ k => XS.iloadN X0.here hx rfl (hb hby own_d9_73) rfl k) ?_
            show own_Go _ _ _ _ s₁ (mkF m 74 #[.val (.int v12), .val (.int (25 : Int32))] [(.int (25 : Int32))])
            refine own_go (fun _ k => XS.iloadN X0.here hx rfl (hb hby own_d9_74) rfl k) ?_
            show own_Go _ _ _ _ s₁ (mkF m 75 #[.val (.int v12), .val (.int (25 : Int32))] [(.int v12), (.int (25 : Int32))])
            refine own_go (fun _ k => XS.iconst X0.here hx rfl (hb hby own_d9_75) k) ?_
            show own_Go _ _ _ _ s₁ (mkF m 76 #[.val (.int v12), .val (.int (25 : Int32))] [(.int (1 : Int32)), (.int v12), (.int (25 : Int32))])
            refine own_go (fun _ k => XS.iushr X0.here hx rfl (hb hby own_d9_76) rfl k) ?_
            show own_Go _ _ _ _ s₁ (mkF m 77 #[.val (.int v12), .val (.int (25 : Int32))] [(.int ((v12.toUInt32 >>> ((1 : Int32) &&& 31).toUInt32).toInt32)), (.int (25 : Int32))])
            refine own_go (fun _ k => XS.isub X0.here hx rfl (hb hby own_d9_77) rfl k) ?_
            show own_Go _ _ _ _ s₁ (mkF m 78 #[.val (.int v12), .val (.int (25 : Int32))] [(.int ((25 : Int32) - ((v12.toUInt32 >>> ((1 : Int32) &&& 31).toUInt32).toInt32)))])
            obtain ⟨fs, hr, hrun, hended, hW, hsame⟩ := X0.leave (v := some (.int ((25 : Int32) - ((v12.toUInt32 >>> ((1 : Int32) &&& 31).toUInt32).toInt32)))) (fun h => by rw [Bd.returns] at h; cases h)
            refine ⟨_, _, retOut X0 hx Bd.returns rfl (Or.inl ⟨rfl, Or.inl rfl, _, rfl⟩) (hb hby own_d9_78) hr, hrun, hended, _, _, rfl, ?_, ⟨_, rfl⟩, hW, hsame.mono (by decide) (by decide)⟩
            show own_Q9 Z p_1 h0 n0 _ s₁.heap _
            rw [e0]
            exact ⟨((25 : Int32) - ((v12.toUInt32 >>> ((1 : Int32) &&& 31).toUInt32).toInt32)), rfl, N0, rfl, (own_t9_3 p_1 v9 v12 hc1 hc2 hc3 hc4 hdv9 hc10 hdv12)⟩
      · refine own_go (fun _ k => XS.icmpNo X0.here hx rfl (hb hby own_d9_37) rfl (Jvm.Free.XT.ii_lt_f hc3) k) ?_
        show own_Go _ _ _ _ s₁ (mkF m 40 #[.val (.int p_1), .val (.int (31 : Int32))] [])
        refine own_go (fun _ k => XS.iinc X0.here hx rfl (hb hby own_d9_40) rfl (l' := #[.val (.int p_1), .val (.int (23 : Int32))]) rfl k) ?_
        show own_Go _ _ _ _ s₁ (mkF m 43 #[.val (.int p_1), .val (.int (23 : Int32))] [])
        refine own_go (fun _ k => XS.iloadN X0.here hx rfl (hb hby own_d9_43) rfl k) ?_
        show own_Go _ _ _ _ s₁ (mkF m 44 #[.val (.int p_1), .val (.int (23 : Int32))] [(.int p_1)])
        refine own_go (fun _ k => XS.bipush X0.here hx rfl (hb hby own_d9_44) k) ?_
        show own_Go _ _ _ _ s₁ (mkF m 46 #[.val (.int p_1), .val (.int (23 : Int32))] [(.int (8 : Int32)), (.int p_1)])
        refine own_go (fun _ k => XS.iushr X0.here hx rfl (hb hby own_d9_46) rfl k) ?_
        show own_Go _ _ _ _ s₁ (mkF m 47 #[.val (.int p_1), .val (.int (23 : Int32))] [(.int ((p_1.toUInt32 >>> ((8 : Int32) &&& 31).toUInt32).toInt32))])
        refine own_go (fun _ k => XS.istoreN X0.here hx rfl (hb hby own_d9_47) rfl (l' := #[.val (.int ((p_1.toUInt32 >>> ((8 : Int32) &&& 31).toUInt32).toInt32)), .val (.int (23 : Int32))]) rfl k) ?_
        show own_Go _ _ _ _ s₁ (mkF m 48 #[.val (.int ((p_1.toUInt32 >>> ((8 : Int32) &&& 31).toUInt32).toInt32)), .val (.int (23 : Int32))] [])
        generalize hdv14 : ((p_1.toUInt32 >>> ((8 : Int32) &&& 31).toUInt32).toInt32) = v14
        show own_Go _ _ _ _ s₁ (mkF m 48 #[.val (.int v14), .val (.int (23 : Int32))] [])
        refine own_go (fun _ k => XS.iloadN X0.here hx rfl (hb hby own_d9_48) rfl k) ?_
        show own_Go _ _ _ _ s₁ (mkF m 49 #[.val (.int v14), .val (.int (23 : Int32))] [(.int v14)])
        refine own_go (fun _ k => XS.bipush X0.here hx rfl (hb hby own_d9_49) k) ?_
        show own_Go _ _ _ _ s₁ (mkF m 51 #[.val (.int v14), .val (.int (23 : Int32))] [(.int (16 : Int32)), (.int v14)])
        by_cases hc15 : v14 < (16 : Int32)
        · refine own_go (fun _ k => XS.icmpYes X0.here hx rfl (pc0 := 51) (pc' := 61) rfl (hb hby own_d9_51) rfl (Jvm.Free.XT.ii_lt_t hc15) (by decide) (by decide) k) ?_
          show own_Go _ _ _ _ s₁ (mkF m 61 #[.val (.int v14), .val (.int (23 : Int32))] [])
          refine own_go (fun _ k => XS.iloadN X0.here hx rfl (hb hby own_d9_61) rfl k) ?_
          show own_Go _ _ _ _ s₁ (mkF m 62 #[.val (.int v14), .val (.int (23 : Int32))] [(.int v14)])
          refine own_go (fun _ k => XS.iconst X0.here hx rfl (hb hby own_d9_62) k) ?_
          show own_Go _ _ _ _ s₁ (mkF m 63 #[.val (.int v14), .val (.int (23 : Int32))] [(.int (4 : Int32)), (.int v14)])
          by_cases hc16 : v14 < (4 : Int32)
          · refine own_go (fun _ k => XS.icmpYes X0.here hx rfl (pc0 := 63) (pc' := 73) rfl (hb hby own_d9_63) rfl (Jvm.Free.XT.ii_lt_t hc16) (by decide) (by decide) k) ?_
            show own_Go _ _ _ _ s₁ (mkF m 73 #[.val (.int v14), .val (.int (23 : Int32))] [])
            refine own_go (fun _ k => XS.iloadN X0.here hx rfl (hb hby own_d9_73) rfl k) ?_
            show own_Go _ _ _ _ s₁ (mkF m 74 #[.val (.int v14), .val (.int (23 : Int32))] [(.int (23 : Int32))])
            refine own_go (fun _ k => XS.iloadN X0.here hx rfl (hb hby own_d9_74) rfl k) ?_
            show own_Go _ _ _ _ s₁ (mkF m 75 #[.val (.int v14), .val (.int (23 : Int32))] [(.int v14), (.int (23 : Int32))])
            refine own_go (fun _ k => XS.iconst X0.here hx rfl (hb hby own_d9_75) k) ?_
            show own_Go _ _ _ _ s₁ (mkF m 76 #[.val (.int v14), .val (.int (23 : Int32))] [(.int (1 : Int32)), (.int v14), (.int (23 : Int32))])
            refine own_go (fun _ k => XS.iushr X0.here hx rfl (hb hby own_d9_76) rfl k) ?_
            show own_Go _ _ _ _ s₁ (mkF m 77 #[.val (.int v14), .val (.int (23 : Int32))] [(.int ((v14.toUInt32 >>> ((1 : Int32) &&& 31).toUInt32).toInt32)), (.int (23 : Int32))])
            refine own_go (fun _ k => XS.isub X0.here hx rfl (hb hby own_d9_77) rfl k) ?_
            show own_Go _ _ _ _ s₁ (mkF m 78 #[.val (.int v14), .val (.int (23 : Int32))] [(.int ((23 : Int32) - ((v14.toUInt32 >>> ((1 : Int32) &&& 31).toUInt32).toInt32)))])
            obtain ⟨fs, hr, hrun, hended, hW, hsame⟩ := X0.leave (v := some (.int ((23 : Int32) - ((v14.toUInt32 >>> ((1 : Int32) &&& 31).toUInt32).toInt32)))) (fun h => by rw [Bd.returns] at h; cases h)
            refine ⟨_, _, retOut X0 hx Bd.returns rfl (Or.inl ⟨rfl, Or.inl rfl, _, rfl⟩) (hb hby own_d9_78) hr, hrun, hended, _, _, rfl, ?_, ⟨_, rfl⟩, hW, hsame.mono (by decide) (by decide)⟩
            show own_Q9 Z p_1 h0 n0 _ s₁.heap _
            rw [e0]
            exact ⟨((23 : Int32) - ((v14.toUInt32 >>> ((1 : Int32) &&& 31).toUInt32).toInt32)), rfl, N0, rfl, (own_t9_4 p_1 v14 hc1 hc2 hc3 hdv14 hc15 hc16)⟩
          · refine own_go (fun _ k => XS.icmpNo X0.here hx rfl (hb hby own_d9_63) rfl (Jvm.Free.XT.ii_lt_f hc16) k) ?_
            show own_Go _ _ _ _ s₁ (mkF m 66 #[.val (.int v14), .val (.int (23 : Int32))] [])
            refine own_go (fun _ k => XS.iinc X0.here hx rfl (hb hby own_d9_66) rfl (l' := #[.val (.int v14), .val (.int (21 : Int32))]) rfl k) ?_
            show own_Go _ _ _ _ s₁ (mkF m 69 #[.val (.int v14), .val (.int (21 : Int32))] [])
            refine own_go (fun _ k => XS.iloadN X0.here hx rfl (hb hby own_d9_69) rfl k) ?_
            show own_Go _ _ _ _ s₁ (mkF m 70 #[.val (.int v14), .val (.int (21 : Int32))] [(.int v14)])
            refine own_go (fun _ k => XS.iconst X0.here hx rfl (hb hby own_d9_70) k) ?_
            show own_Go _ _ _ _ s₁ (mkF m 71 #[.val (.int v14), .val (.int (21 : Int32))] [(.int (2 : Int32)), (.int v14)])
            refine own_go (fun _ k => XS.iushr X0.here hx rfl (hb hby own_d9_71) rfl k) ?_
            show own_Go _ _ _ _ s₁ (mkF m 72 #[.val (.int v14), .val (.int (21 : Int32))] [(.int ((v14.toUInt32 >>> ((2 : Int32) &&& 31).toUInt32).toInt32))])
            refine own_go (fun _ k => XS.istoreN X0.here hx rfl (hb hby own_d9_72) rfl (l' := #[.val (.int ((v14.toUInt32 >>> ((2 : Int32) &&& 31).toUInt32).toInt32)), .val (.int (21 : Int32))]) rfl k) ?_
            show own_Go _ _ _ _ s₁ (mkF m 73 #[.val (.int ((v14.toUInt32 >>> ((2 : Int32) &&& 31).toUInt32).toInt32)), .val (.int (21 : Int32))] [])
            generalize hdv18 : ((v14.toUInt32 >>> ((2 : Int32) &&& 31).toUInt32).toInt32) = v18
            show own_Go _ _ _ _ s₁ (mkF m 73 #[.val (.int v18), .val (.int (21 : Int32))] [])
            refine own_go (fun _ k => XS.iloadN X0.here hx rfl (hb hby own_d9_73) rfl k) ?_
            show own_Go _ _ _ _ s₁ (mkF m 74 #[.val (.int v18), .val (.int (21 : Int32))] [(.int (21 : Int32))])
            refine own_go (fun _ k => XS.iloadN X0.here hx rfl (hb hby own_d9_74) rfl k) ?_
            show own_Go _ _ _ _ s₁ (mkF m 75 #[.val (.int v18), .val (.int (21 : Int32))] [(.int v18), (.int (21 : Int32))])
            refine own_go (fun _ k => XS.iconst X0.here hx rfl (hb hby own_d9_75) k) ?_
            show own_Go _ _ _ _ s₁ (mkF m 76 #[.val (.int v18), .val (.int (21 : Int32))] [(.int (1 : Int32)), (.int v18), (.int (21 : Int32))])
            refine own_go (fun _ k => XS.iushr X0.here hx rfl (hb hby own_d9_76) rfl k) ?_
            show own_Go _ _ _ _ s₁ (mkF m 77 #[.val (.int v18), .val (.int (21 : Int32))] [(.int ((v18.toUInt32 >>> ((1 : Int32) &&& 31).toUInt32).toInt32)), (.int (21 : Int32))])
            refine own_go (fun _ k => XS.isub X0.here hx rfl (hb hby own_d9_77) rfl k) ?_
            show own_Go _ _ _ _ s₁ (mkF m 78 #[.val (.int v18), .val (.int (21 : Int32))] [(.int ((21 : Int32) - ((v18.toUInt32 >>> ((1 : Int32) &&& 31).toUInt32).toInt32)))])
            obtain ⟨fs, hr, hrun, hended, hW, hsame⟩ := X0.leave (v := some (.int ((21 : Int32) - ((v18.toUInt32 >>> ((1 : Int32) &&& 31).toUInt32).toInt32)))) (fun h => by rw [Bd.returns] at h; cases h)
            refine ⟨_, _, retOut X0 hx Bd.returns rfl (Or.inl ⟨rfl, Or.inl rfl, _, rfl⟩) (hb hby own_d9_78) hr, hrun, hended, _, _, rfl, ?_, ⟨_, rfl⟩, hW, hsame.mono (by decide) (by decide)⟩
            show own_Q9 Z p_1 h0 n0 _ s₁.heap _
            rw [e0]
            exact ⟨((21 : Int32) - ((v18.toUInt32 >>> ((1 : Int32) &&& 31).toUInt32).toInt32)), rfl, N0, rfl, (own_t9_5 p_1 v14 v18 hc1 hc2 hc3 hdv14 hc15 hc16 hdv18)⟩
        · refine own_go (fun _ k => XS.icmpNo X0.here hx rfl (hb hby own_d9_51) rfl (Jvm.Free.XT.ii_lt_f hc15) k) ?_
          show own_Go _ _ _ _ s₁ (mkF m 54 #[.val (.int v14), .val (.int (23 : Int32))] [])
          refine own_go (fun _ k => XS.iinc X0.here hx rfl (hb hby own_d9_54) rfl (l' := #[.val (.int v14), .val (.int (19 : Int32))]) rfl k) ?_
          show own_Go _ _ _ _ s₁ (mkF m 57 #[.val (.int v14), .val (.int (19 : Int32))] [])
          refine own_go (fun _ k => XS.iloadN X0.here hx rfl (hb hby own_d9_57) rfl k) ?_
          show own_Go _ _ _ _ s₁ (mkF m 58 #[.val (.int v14), .val (.int (19 : Int32))] [(.int v14)])
          refine own_go (fun _ k => XS.iconst X0.here hx rfl (hb hby own_d9_58) k) ?_
          show own_Go _ _ _ _ s₁ (mkF m 59 #[.val (.int v14), .val (.int (19 : Int32))] [(.int (4 : Int32)), (.int v14)])
          refine own_go (fun _ k => XS.iushr X0.here hx rfl (hb hby own_d9_59) rfl k) ?_
          show own_Go _ _ _ _ s₁ (mkF m 60 #[.val (.int v14), .val (.int (19 : Int32))] [(.int ((v14.toUInt32 >>> ((4 : Int32) &&& 31).toUInt32).toInt32))])
          refine own_go (fun _ k => XS.istoreN X0.here hx rfl (hb hby own_d9_60) rfl (l' := #[.val (.int ((v14.toUInt32 >>> ((4 : Int32) &&& 31).toUInt32).toInt32)), .val (.int (19 : Int32))]) rfl k) ?_
          show own_Go _ _ _ _ s₁ (mkF m 61 #[.val (.int ((v14.toUInt32 >>> ((4 : Int32) &&& 31).toUInt32).toInt32)), .val (.int (19 : Int32))] [])
          generalize hdv20 : ((v14.toUInt32 >>> ((4 : Int32) &&& 31).toUInt32).toInt32) = v20
          show own_Go _ _ _ _ s₁ (mkF m 61 #[.val (.int v20), .val (.int (19 : Int32))] [])
          refine own_go (fun _ k => XS.iloadN X0.here hx rfl (hb hby own_d9_61) rfl k) ?_
          show own_Go _ _ _ _ s₁ (mkF m 62 #[.val (.int v20), .val (.int (19 : Int32))] [(.int v20)])
          refine own_go (fun _ k => XS.iconst X0.here hx rfl (hb hby own_d9_62) k) ?_
          show own_Go _ _ _ _ s₁ (mkF m 63 #[.val (.int v20), .val (.int (19 : Int32))] [(.int (4 : Int32)), (.int v20)])
          by_cases hc21 : v20 < (4 : Int32)
          · refine own_go (fun _ k => XS.icmpYes X0.here hx rfl (pc0 := 63) (pc' := 73) rfl (hb hby own_d9_63) rfl (Jvm.Free.XT.ii_lt_t hc21) (by decide) (by decide) k) ?_
            show own_Go _ _ _ _ s₁ (mkF m 73 #[.val (.int v20), .val (.int (19 : Int32))] [])
            refine own_go (fun _ k => XS.iloadN X0.here hx rfl (hb hby own_d9_73) rfl k) ?_
            show own_Go _ _ _ _ s₁ (mkF m 74 #[.val (.int v20), .val (.int (19 : Int32))] [(.int (19 : Int32))])
            refine own_go (fun _ k => XS.iloadN X0.here hx rfl (hb hby own_d9_74) rfl k) ?_
            show own_Go _ _ _ _ s₁ (mkF m 75 #[.val (.int v20), .val (.int (19 : Int32))] [(.int v20), (.int (19 : Int32))])
            refine own_go (fun _ k => XS.iconst X0.here hx rfl (hb hby own_d9_75) k) ?_
            show own_Go _ _ _ _ s₁ (mkF m 76 #[.val (.int v20), .val (.int (19 : Int32))] [(.int (1 : Int32)), (.int v20), (.int (19 : Int32))])
            refine own_go (fun _ k => XS.iushr X0.here hx rfl (hb hby own_d9_76) rfl k) ?_
            show own_Go _ _ _ _ s₁ (mkF m 77 #[.val (.int v20), .val (.int (19 : Int32))] [(.int ((v20.toUInt32 >>> ((1 : Int32) &&& 31).toUInt32).toInt32)), (.int (19 : Int32))])
            refine own_go (fun _ k => XS.isub X0.here hx rfl (hb hby own_d9_77) rfl k) ?_
            show own_Go _ _ _ _ s₁ (mkF m 78 #[.val (.int v20), .val (.int (19 : Int32))] [(.int ((19 : Int32) - ((v20.toUInt32 >>> ((1 : Int32) &&& 31).toUInt32).toInt32)))])
            obtain ⟨fs, hr, hrun, hended, hW, hsame⟩ := X0.leave (v := some (.int ((19 : Int32) - ((v20.toUInt32 >>> ((1 : Int32) &&& 31).toUInt32).toInt32)))) (fun h => by rw [Bd.returns] at h; cases h)
            refine ⟨_, _, retOut X0 hx Bd.returns rfl (Or.inl ⟨rfl, Or.inl rfl, _, rfl⟩) (hb hby own_d9_78) hr, hrun, hended, _, _, rfl, ?_, ⟨_, rfl⟩, hW, hsame.mono (by decide) (by decide)⟩
            show own_Q9 Z p_1 h0 n0 _ s₁.heap _
            rw [e0]
            exact ⟨((19 : Int32) - ((v20.toUInt32 >>> ((1 : Int32) &&& 31).toUInt32).toInt32)), rfl, N0, rfl, (own_t9_6 p_1 v14 v20 hc1 hc2 hc3 hdv14 hc15 hdv20 hc21)⟩
          · refine own_go (fun _ k => XS.icmpNo X0.here hx rfl (hb hby own_d9_63) rfl (Jvm.Free.XT.ii_lt_f hc21) k) ?_
            show own_Go _ _ _ _ s₁ (mkF m 66 #[.val (.int v20), .val (.int (19 : Int32))] [])
            refine own_go (fun _ k => XS.iinc X0.here hx rfl (hb hby own_d9_66) rfl (l' := #[.val (.int v20), .val (.int (17 : Int32))]) rfl k) ?_
            show own_Go _ _ _ _ s₁ (mkF m 69 #[.val (.int v20), .val (.int (17 : Int32))] [])
            refine own_go (fun _ k => XS.iloadN X0.here hx rfl (hb hby own_d9_69) rfl k) ?_
            show own_Go _ _ _ _ s₁ (mkF m 70 #[.val (.int v20), .val (.int (17 : Int32))] [(.int v20)])
            refine own_go (fun _ k => XS.iconst X0.here hx rfl (hb hby own_d9_70) k) ?_
            show own_Go _ _ _ _ s₁ (mkF m 71 #[.val (.int v20), .val (.int (17 : Int32))] [(.int (2 : Int32)), (.int v20)])
            refine own_go (fun _ k => XS.iushr X0.here hx rfl (hb hby own_d9_71) rfl k) ?_
            show own_Go _ _ _ _ s₁ (mkF m 72 #[.val (.int v20), .val (.int (17 : Int32))] [(.int ((v20.toUInt32 >>> ((2 : Int32) &&& 31).toUInt32).toInt32))])
            refine own_go (fun _ k => XS.istoreN X0.here hx rfl (hb hby own_d9_72) rfl (l' := #[.val (.int ((v20.toUInt32 >>> ((2 : Int32) &&& 31).toUInt32).toInt32)), .val (.int (17 : Int32))]) rfl k) ?_
            show own_Go _ _ _ _ s₁ (mkF m 73 #[.val (.int ((v20.toUInt32 >>> ((2 : Int32) &&& 31).toUInt32).toInt32)), .val (.int (17 : Int32))] [])
            generalize hdv23 : ((v20.toUInt32 >>> ((2 : Int32) &&& 31).toUInt32).toInt32) = v23
            show own_Go _ _ _ _ s₁ (mkF m 73 #[.val (.int v23), .val (.int (17 : Int32))] [])
            refine own_go (fun _ k => XS.iloadN X0.here hx rfl (hb hby own_d9_73) rfl k) ?_
            show own_Go _ _ _ _ s₁ (mkF m 74 #[.val (.int v23), .val (.int (17 : Int32))] [(.int (17 : Int32))])
            refine own_go (fun _ k => XS.iloadN X0.here hx rfl (hb hby own_d9_74) rfl k) ?_
            show own_Go _ _ _ _ s₁ (mkF m 75 #[.val (.int v23), .val (.int (17 : Int32))] [(.int v23), (.int (17 : Int32))])
            refine own_go (fun _ k => XS.iconst X0.here hx rfl (hb hby own_d9_75) k) ?_
            show own_Go _ _ _ _ s₁ (mkF m 76 #[.val (.int v23), .val (.int (17 : Int32))] [(.int (1 : Int32)), (.int v23), (.int (17 : Int32))])
            refine own_go (fun _ k => XS.iushr X0.here hx rfl (hb hby own_d9_76) rfl k) ?_
            show own_Go _ _ _ _ s₁ (mkF m 77 #[.val (.int v23), .val (.int (17 : Int32))] [(.int ((v23.toUInt32 >>> ((1 : Int32) &&& 31).toUInt32).toInt32)), (.int (17 : Int32))])
            refine own_go (fun _ k => XS.isub X0.here hx rfl (hb hby own_d9_77) rfl k) ?_
            show own_Go _ _ _ _ s₁ (mkF m 78 #[.val (.int v23), .val (.int (17 : Int32))] [(.int ((17 : Int32) - ((v23.toUInt32 >>> ((1 : Int32) &&& 31).toUInt32).toInt32)))])
            obtain ⟨fs, hr, hrun, hended, hW, hsame⟩ := X0.leave (v := some (.int ((17 : Int32) - ((v23.toUInt32 >>> ((1 : Int32) &&& 31).toUInt32).toInt32)))) (fun h => by rw [Bd.returns] at h; cases h)
            refine ⟨_, _, retOut X0 hx Bd.returns rfl (Or.inl ⟨rfl, Or.inl rfl, _, rfl⟩) (hb hby own_d9_78) hr, hrun, hended, _, _, rfl, ?_, ⟨_, rfl⟩, hW, hsame.mono (by decide) (by decide)⟩
            show own_Q9 Z p_1 h0 n0 _ s₁.heap _
            rw [e0]
            exact ⟨((17 : Int32) - ((v23.toUInt32 >>> ((1 : Int32) &&& 31).toUInt32).toInt32)), rfl, N0, rfl, (own_t9_7 p_1 v14 v20 v23 hc1 hc2 hc3 hdv14 hc15 hdv20 hc21 hdv23)⟩
    · refine own_go (fun _ k => XS.icmpNo X0.here hx rfl (hb hby own_d9_22) rfl (Jvm.Free.XT.ii_lt_f hc2) k) ?_
      show own_Go _ _ _ _ s₁ (mkF m 25 #[.val (.int p_1), .val (.int (31 : Int32))] [])
      refine own_go (fun _ k => XS.iinc X0.here hx rfl (hb hby own_d9_25) rfl (l' := #[.val (.int p_1), .val (.int (15 : Int32))]) rfl k) ?_
      show own_Go _ _ _ _ s₁ (mkF m 28 #[.val (.int p_1), .val (.int (15 : Int32))] [])
      refine own_go (fun _ k => XS.iloadN X0.here hx rfl (hb hby own_d9_28) rfl k) ?_
      show own_Go _ _ _ _ s₁ (mkF m 29 #[.val (.int p_1), .val (.int (15 : Int32))] [(.int p_1)])
      refine own_go (fun _ k => XS.bipush X0.here hx rfl (hb hby own_d9_29) k) ?_
      show own_Go _ _ _ _ s₁ (mkF m 31 #[.val (.int p_1), .val (.int (15 : Int32))] [(.int (16 : Int32)), (.int p_1)])
      refine own_go (fun _ k => XS.iushr X0.here hx rfl (hb hby own_d9_31) rfl k) ?_
      show own_Go _ _ _ _ s₁ (mkF m 32 #[.val (.int p_1), .val (.int (15 : Int32))] [(.int ((p_1.toUInt32 >>> ((16 : Int32) &&& 31).toUInt32).toInt32))])
      refine own_go (fun _ k => XS.istoreN X0.here hx rfl (hb hby own_d9_32) rfl (l' := #[.val (.int ((p_1.toUInt32 >>> ((16 : Int32) &&& 31).toUInt32).toInt32)), .val (.int (15 : Int32))]) rfl k) ?_
      show own_Go _ _ _ _ s₁ (mkF m 33 #[.val (.int ((p_1.toUInt32 >>> ((16 : Int32) &&& 31).toUInt32).toInt32)), .val (.int (15 : Int32))] [])
      generalize hdv25 : ((p_1.toUInt32 >>> ((16 : Int32) &&& 31).toUInt32).toInt32) = v25
      show own_Go _ _ _ _ s₁ (mkF m 33 #[.val (.int v25), .val (.int (15 : Int32))] [])
      refine own_go (fun _ k => XS.iloadN X0.here hx rfl (hb hby own_d9_33) rfl k) ?_
      show own_Go _ _ _ _ s₁ (mkF m 34 #[.val (.int v25), .val (.int (15 : Int32))] [(.int v25)])
      refine own_go (fun _ k => XS.sipush X0.here hx rfl (hb hby own_d9_34) k) ?_
      show own_Go _ _ _ _ s₁ (mkF m 37 #[.val (.int v25), .val (.int (15 : Int32))] [(.int (256 : Int32)), (.int v25)])
      by_cases hc26 : v25 < (256 : Int32)
      · refine own_go (fun _ k => XS.icmpYes X0.here hx rfl (pc0 := 37) (pc' := 48) rfl (hb hby own_d9_37) rfl (Jvm.Free.XT.ii_lt_t hc26) (by decide) (by decide) k) ?_
        show own_Go _ _ _ _ s₁ (mkF m 48 #[.val (.int v25), .val (.int (15 : Int32))] [])
        refine own_go (fun _ k => XS.iloadN X0.here hx rfl (hb hby own_d9_48) rfl k) ?_
        show own_Go _ _ _ _ s₁ (mkF m 49 #[.val (.int v25), .val (.int (15 : Int32))] [(.int v25)])
        refine own_go (fun _ k => XS.bipush X0.here hx rfl (hb hby own_d9_49) k) ?_
        show own_Go _ _ _ _ s₁ (mkF m 51 #[.val (.int v25), .val (.int (15 : Int32))] [(.int (16 : Int32)), (.int v25)])
        by_cases hc27 : v25 < (16 : Int32)
        · refine own_go (fun _ k => XS.icmpYes X0.here hx rfl (pc0 := 51) (pc' := 61) rfl (hb hby own_d9_51) rfl (Jvm.Free.XT.ii_lt_t hc27) (by decide) (by decide) k) ?_
          show own_Go _ _ _ _ s₁ (mkF m 61 #[.val (.int v25), .val (.int (15 : Int32))] [])
          refine own_go (fun _ k => XS.iloadN X0.here hx rfl (hb hby own_d9_61) rfl k) ?_
          show own_Go _ _ _ _ s₁ (mkF m 62 #[.val (.int v25), .val (.int (15 : Int32))] [(.int v25)])
          refine own_go (fun _ k => XS.iconst X0.here hx rfl (hb hby own_d9_62) k) ?_
          show own_Go _ _ _ _ s₁ (mkF m 63 #[.val (.int v25), .val (.int (15 : Int32))] [(.int (4 : Int32)), (.int v25)])
          by_cases hc28 : v25 < (4 : Int32)
          · refine own_go (fun _ k => XS.icmpYes X0.here hx rfl (pc0 := 63) (pc' := 73) rfl (hb hby own_d9_63) rfl (Jvm.Free.XT.ii_lt_t hc28) (by decide) (by decide) k) ?_
            show own_Go _ _ _ _ s₁ (mkF m 73 #[.val (.int v25), .val (.int (15 : Int32))] [])
            refine own_go (fun _ k => XS.iloadN X0.here hx rfl (hb hby own_d9_73) rfl k) ?_
            show own_Go _ _ _ _ s₁ (mkF m 74 #[.val (.int v25), .val (.int (15 : Int32))] [(.int (15 : Int32))])
            refine own_go (fun _ k => XS.iloadN X0.here hx rfl (hb hby own_d9_74) rfl k) ?_
            show own_Go _ _ _ _ s₁ (mkF m 75 #[.val (.int v25), .val (.int (15 : Int32))] [(.int v25), (.int (15 : Int32))])
            refine own_go (fun _ k => XS.iconst X0.here hx rfl (hb hby own_d9_75) k) ?_
            show own_Go _ _ _ _ s₁ (mkF m 76 #[.val (.int v25), .val (.int (15 : Int32))] [(.int (1 : Int32)), (.int v25), (.int (15 : Int32))])
            refine own_go (fun _ k => XS.iushr X0.here hx rfl (hb hby own_d9_76) rfl k) ?_
            show own_Go _ _ _ _ s₁ (mkF m 77 #[.val (.int v25), .val (.int (15 : Int32))] [(.int ((v25.toUInt32 >>> ((1 : Int32) &&& 31).toUInt32).toInt32)), (.int (15 : Int32))])
            refine own_go (fun _ k => XS.isub X0.here hx rfl (hb hby own_d9_77) rfl k) ?_
            show own_Go _ _ _ _ s₁ (mkF m 78 #[.val (.int v25), .val (.int (15 : Int32))] [(.int ((15 : Int32) - ((v25.toUInt32 >>> ((1 : Int32) &&& 31).toUInt32).toInt32)))])
            obtain ⟨fs, hr, hrun, hended, hW, hsame⟩ := X0.leave (v := some (.int ((15 : Int32) - ((v25.toUInt32 >>> ((1 : Int32) &&& 31).toUInt32).toInt32)))) (fun h => by rw [Bd.returns] at h; cases h)
            refine ⟨_, _, retOut X0 hx Bd.returns rfl (Or.inl ⟨rfl, Or.inl rfl, _, rfl⟩) (hb hby own_d9_78) hr, hrun, hended, _, _, rfl, ?_, ⟨_, rfl⟩, hW, hsame.mono (by decide) (by decide)⟩
            show own_Q9 Z p_1 h0 n0 _ s₁.heap _
            rw [e0]
            exact ⟨((15 : Int32) - ((v25.toUInt32 >>> ((1 : Int32) &&& 31).toUInt32).toInt32)), rfl, N0, rfl, (own_t9_8 p_1 v25 hc1 hc2 hdv25 hc26 hc27 hc28)⟩
          · refine own_go (fun _ k => XS.icmpNo X0.here hx rfl (hb hby own_d9_63) rfl (Jvm.Free.XT.ii_lt_f hc28) k) ?_
            show own_Go _ _ _ _ s₁ (mkF m 66 #[.val (.int v25), .val (.int (15 : Int32))] [])
            refine own_go (fun _ k => XS.iinc X0.here hx rfl (hb hby own_d9_66) rfl (l' := #[.val (.int v25), .val (.int (13 : Int32))]) rfl k) ?_
            show own_Go _ _ _ _ s₁ (mkF m 69 #[.val (.int v25), .val (.int (13 : Int32))] [])
            refine own_go (fun _ k => XS.iloadN X0.here hx rfl (hb hby own_d9_69) rfl k) ?_
            show own_Go _ _ _ _ s₁ (mkF m 70 #[.val (.int v25), .val (.int (13 : Int32))] [(.int v25)])
            refine own_go (fun _ k => XS.iconst X0.here hx rfl (hb hby own_d9_70) k) ?_
            show own_Go _ _ _ _ s₁ (mkF m 71 #[.val (.int v25), .val (.int (13 : Int32))] [(.int (2 : Int32)), (.int v25)])
            refine own_go (fun _ k => XS.iushr X0.here hx rfl (hb hby own_d9_71) rfl k) ?_
            show own_Go _ _ _ _ s₁ (mkF m 72 #[.val (.int v25), .val (.int (13 : Int32))] [(.int ((v25.toUInt32 >>> ((2 : Int32) &&& 31).toUInt32).toInt32))])
            refine own_go (fun _ k => XS.istoreN X0.here hx rfl (hb hby own_d9_72) rfl (l' := #[.val (.int ((v25.toUInt32 >>> ((2 : Int32) &&& 31).toUInt32).toInt32)), .val (.int (13 : Int32))]) rfl k) ?_
            show own_Go _ _ _ _ s₁ (mkF m 73 #[.val (.int ((v25.toUInt32 >>> ((2 : Int32) &&& 31).toUInt32).toInt32)), .val (.int (13 : Int32))] [])
            generalize hdv30 : ((v25.toUInt32 >>> ((2 : Int32) &&& 31).toUInt32).toInt32) = v30
            show own_Go _ _ _ _ s₁ (mkF m 73 #[.val (.int v30), .val (.int (13 : Int32))] [])
            refine own_go (fun _ k => XS.iloadN X0.here hx rfl (hb hby own_d9_73) rfl k) ?_
            show own_Go _ _ _ _ s₁ (mkF m 74 #[.val (.int v30), .val (.int (13 : Int32))] [(.int (13 : Int32))])
            refine own_go (fun _ k => XS.iloadN X0.here hx rfl (hb hby own_d9_74) rfl k) ?_
            show own_Go _ _ _ _ s₁ (mkF m 75 #[.val (.int v30), .val (.int (13 : Int32))] [(.int v30), (.int (13 : Int32))])
            refine own_go (fun _ k => XS.iconst X0.here hx rfl (hb hby own_d9_75) k) ?_
            show own_Go _ _ _ _ s₁ (mkF m 76 #[.val (.int v30), .val (.int (13 : Int32))] [(.int (1 : Int32)), (.int v30), (.int (13 : Int32))])
            refine own_go (fun _ k => XS.iushr X0.here hx rfl (hb hby own_d9_76) rfl k) ?_
            show own_Go _ _ _ _ s₁ (mkF m 77 #[.val (.int v30), .val (.int (13 : Int32))] [(.int ((v30.toUInt32 >>> ((1 : Int32) &&& 31).toUInt32).toInt32)), (.int (13 : Int32))])
            refine own_go (fun _ k => XS.isub X0.here hx rfl (hb hby own_d9_77) rfl k) ?_
            show own_Go _ _ _ _ s₁ (mkF m 78 #[.val (.int v30), .val (.int (13 : Int32))] [(.int ((13 : Int32) - ((v30.toUInt32 >>> ((1 : Int32) &&& 31).toUInt32).toInt32)))])
            obtain ⟨fs, hr, hrun, hended, hW, hsame⟩ := X0.leave (v := some (.int ((13 : Int32) - ((v30.toUInt32 >>> ((1 : Int32) &&& 31).toUInt32).toInt32)))) (fun h => by rw [Bd.returns] at h; cases h)
            refine ⟨_, _, retOut X0 hx Bd.returns rfl (Or.inl ⟨rfl, Or.inl rfl, _, rfl⟩) (hb hby own_d9_78) hr, hrun, hended, _, _, rfl, ?_, ⟨_, rfl⟩, hW, hsame.mono (by decide) (by decide)⟩
            show own_Q9 Z p_1 h0 n0 _ s₁.heap _
            rw [e0]
            exact ⟨((13 : Int32) - ((v30.toUInt32 >>> ((1 : Int32) &&& 31).toUInt32).toInt32)), rfl, N0, rfl, (own_t9_9 p_1 v25 v30 hc1 hc2 hdv25 hc26 hc27 hc28 hdv30)⟩
        · refine own_go (fun _ k => XS.icmpNo X0.here hx rfl (hb hby own_d9_51) rfl (Jvm.Free.XT.ii_lt_f hc27) k) ?_
          show own_Go _ _ _ _ s₁ (mkF m 54 #[.val (.int v25), .val (.int (15 : Int32))] [])
          refine own_go (fun _ k => XS.iinc X0.here hx rfl (hb hby own_d9_54) rfl (l' := #[.val (.int v25), .val (.int (11 : Int32))]) rfl k) ?_
          show own_Go _ _ _ _ s₁ (mkF m 57 #[.val (.int v25), .val (.int (11 : Int32))] [])
          refine own_go (fun _ k => XS.iloadN X0.here hx rfl (hb hby own_d9_57) rfl k) ?_
          show own_Go _ _ _ _ s₁ (mkF m 58 #[.val (.int v25), .val (.int (11 : Int32))] [(.int v25)])
          refine own_go (fun _ k => XS.iconst X0.here hx rfl (hb hby own_d9_58) k) ?_
          show own_Go _ _ _ _ s₁ (mkF m 59 #[.val (.int v25), .val (.int (11 : Int32))] [(.int (4 : Int32)), (.int v25)])
          refine own_go (fun _ k => XS.iushr X0.here hx rfl (hb hby own_d9_59) rfl k) ?_
          show own_Go _ _ _ _ s₁ (mkF m 60 #[.val (.int v25), .val (.int (11 : Int32))] [(.int ((v25.toUInt32 >>> ((4 : Int32) &&& 31).toUInt32).toInt32))])
          refine own_go (fun _ k => XS.istoreN X0.here hx rfl (hb hby own_d9_60) rfl (l' := #[.val (.int ((v25.toUInt32 >>> ((4 : Int32) &&& 31).toUInt32).toInt32)), .val (.int (11 : Int32))]) rfl k) ?_
          show own_Go _ _ _ _ s₁ (mkF m 61 #[.val (.int ((v25.toUInt32 >>> ((4 : Int32) &&& 31).toUInt32).toInt32)), .val (.int (11 : Int32))] [])
          generalize hdv32 : ((v25.toUInt32 >>> ((4 : Int32) &&& 31).toUInt32).toInt32) = v32
          show own_Go _ _ _ _ s₁ (mkF m 61 #[.val (.int v32), .val (.int (11 : Int32))] [])
          refine own_go (fun _ k => XS.iloadN X0.here hx rfl (hb hby own_d9_61) rfl k) ?_
          show own_Go _ _ _ _ s₁ (mkF m 62 #[.val (.int v32), .val (.int (11 : Int32))] [(.int v32)])
          refine own_go (fun _ k => XS.iconst X0.here hx rfl (hb hby own_d9_62) k) ?_
          show own_Go _ _ _ _ s₁ (mkF m 63 #[.val (.int v32), .val (.int (11 : Int32))] [(.int (4 : Int32)), (.int v32)])
          by_cases hc33 : v32 < (4 : Int32)
          · refine own_go (fun _ k => XS.icmpYes X0.here hx rfl (pc0 := 63) (pc' := 73) rfl (hb hby own_d9_63) rfl (Jvm.Free.XT.ii_lt_t hc33) (by decide) (by decide) k) ?_
            show own_Go _ _ _ _ s₁ (mkF m 73 #[.val (.int v32), .val (.int (11 : Int32))] [])
            refine own_go (fun _ k => XS.iloadN X0.here hx rfl (hb hby own_d9_73) rfl k) ?_
            show own_Go _ _ _ _ s₁ (mkF m 74 #[.val (.int v32), .val (.int (11 : Int32))] [(.int (11 : Int32))])
            refine own_go (fun _ k => XS.iloadN X0.here hx rfl (hb hby own_d9_74) rfl k) ?_
            show own_Go _ _ _ _ s₁ (mkF m 75 #[.val (.int v32), .val (.int (11 : Int32))] [(.int v32), (.int (11 : Int32))])
            refine own_go (fun _ k => XS.iconst X0.here hx rfl (hb hby own_d9_75) k) ?_
            show own_Go _ _ _ _ s₁ (mkF m 76 #[.val (.int v32), .val (.int (11 : Int32))] [(.int (1 : Int32)), (.int v32), (.int (11 : Int32))])
            refine own_go (fun _ k => XS.iushr X0.here hx rfl (hb hby own_d9_76) rfl k) ?_
            show own_Go _ _ _ _ s₁ (mkF m 77 #[.val (.int v32), .val (.int (11 : Int32))] [(.int ((v32.toUInt32 >>> ((1 : Int32) &&& 31).toUInt32).toInt32)), (.int (11 : Int32))])
            refine own_go (fun _ k => XS.isub X0.here hx rfl (hb hby own_d9_77) rfl k) ?_
            show own_Go _ _ _ _ s₁ (mkF m 78 #[.val (.int v32), .val (.int (11 : Int32))] [(.int ((11 : Int32) - ((v32.toUInt32 >>> ((1 : Int32) &&& 31).toUInt32).toInt32)))])
            obtain ⟨fs, hr, hrun, hended, hW, hsame⟩ := X0.leave (v := some (.int ((11 : Int32) - ((v32.toUInt32 >>> ((1 : Int32) &&& 31).toUInt32).toInt32)))) (fun h => by rw [Bd.returns] at h; cases h)
            refine ⟨_, _, retOut X0 hx Bd.returns rfl (Or.inl ⟨rfl, Or.inl rfl, _, rfl⟩) (hb hby own_d9_78) hr, hrun, hended, _, _, rfl, ?_, ⟨_, rfl⟩, hW, hsame.mono (by decide) (by decide)⟩
            show own_Q9 Z p_1 h0 n0 _ s₁.heap _
            rw [e0]
            exact ⟨((11 : Int32) - ((v32.toUInt32 >>> ((1 : Int32) &&& 31).toUInt32).toInt32)), rfl, N0, rfl, (own_t9_10 p_1 v25 v32 hc1 hc2 hdv25 hc26 hc27 hdv32 hc33)⟩
          · refine own_go (fun _ k => XS.icmpNo X0.here hx rfl (hb hby own_d9_63) rfl (Jvm.Free.XT.ii_lt_f hc33) k) ?_
            show own_Go _ _ _ _ s₁ (mkF m 66 #[.val (.int v32), .val (.int (11 : Int32))] [])
            refine own_go (fun _ k => XS.iinc X0.here hx rfl (hb hby own_d9_66) rfl (l' := #[.val (.int v32), .val (.int (9 : Int32))]) rfl k) ?_
            show own_Go _ _ _ _ s₁ (mkF m 69 #[.val (.int v32), .val (.int (9 : Int32))] [])
            refine own_go (fun _ k => XS.iloadN X0.here hx rfl (hb hby own_d9_69) rfl k) ?_
            show own_Go _ _ _ _ s₁ (mkF m 70 #[.val (.int v32), .val (.int (9 : Int32))] [(.int v32)])
            refine own_go (fun _ k => XS.iconst X0.here hx rfl (hb hby own_d9_70) k) ?_
            show own_Go _ _ _ _ s₁ (mkF m 71 #[.val (.int v32), .val (.int (9 : Int32))] [(.int (2 : Int32)), (.int v32)])
            refine own_go (fun _ k => XS.iushr X0.here hx rfl (hb hby own_d9_71) rfl k) ?_
            show own_Go _ _ _ _ s₁ (mkF m 72 #[.val (.int v32), .val (.int (9 : Int32))] [(.int ((v32.toUInt32 >>> ((2 : Int32) &&& 31).toUInt32).toInt32))])
            refine own_go (fun _ k => XS.istoreN X0.here hx rfl (hb hby own_d9_72) rfl (l' := #[.val (.int ((v32.toUInt32 >>> ((2 : Int32) &&& 31).toUInt32).toInt32)), .val (.int (9 : Int32))]) rfl k) ?_
            show own_Go _ _ _ _ s₁ (mkF m 73 #[.val (.int ((v32.toUInt32 >>> ((2 : Int32) &&& 31).toUInt32).toInt32)), .val (.int (9 : Int32))] [])
            generalize hdv35 : ((v32.toUInt32 >>> ((2 : Int32) &&& 31).toUInt32).toInt32) = v35
            show own_Go _ _ _ _ s₁ (mkF m 73 #[.val (.int v35), .val (.int (9 : Int32))] [])
            refine own_go (fun _ k => XS.iloadN X0.here hx rfl (hb hby own_d9_73) rfl k) ?_
            show own_Go _ _ _ _ s₁ (mkF m 74 #[.val (.int v35), .val (.int (9 : Int32))] [(.int (9 : Int32))])
            refine own_go (fun _ k => XS.iloadN X0.here hx rfl (hb hby own_d9_74) rfl k) ?_
            show own_Go _ _ _ _ s₁ (mkF m 75 #[.val (.int v35), .val (.int (9 : Int32))] [(.int v35), (.int (9 : Int32))])
            refine own_go (fun _ k => XS.iconst X0.here hx rfl (hb hby own_d9_75) k) ?_
            show own_Go _ _ _ _ s₁ (mkF m 76 #[.val (.int v35), .val (.int (9 : Int32))] [(.int (1 : Int32)), (.int v35), (.int (9 : Int32))])
            refine own_go (fun _ k => XS.iushr X0.here hx rfl (hb hby own_d9_76) rfl k) ?_
            show own_Go _ _ _ _ s₁ (mkF m 77 #[.val (.int v35), .val (.int (9 : Int32))] [(.int ((v35.toUInt32 >>> ((1 : Int32) &&& 31).toUInt32).toInt32)), (.int (9 : Int32))])
            refine own_go (fun _ k => XS.isub X0.here hx rfl (hb hby own_d9_77) rfl k) ?_
            show own_Go _ _ _ _ s₁ (mkF m 78 #[.val (.int v35), .val (.int (9 : Int32))] [(.int ((9 : Int32) - ((v35.toUInt32 >>> ((1 : Int32) &&& 31).toUInt32).toInt32)))])
            obtain ⟨fs, hr, hrun, hended, hW, hsame⟩ := X0.leave (v := some (.int ((9 : Int32) - ((v35.toUInt32 >>> ((1 : Int32) &&& 31).toUInt32).toInt32)))) (fun h => by rw [Bd.returns] at h; cases h)
            refine ⟨_, _, retOut X0 hx Bd.returns rfl (Or.inl ⟨rfl, Or.inl rfl, _, rfl⟩) (hb hby own_d9_78) hr, hrun, hended, _, _, rfl, ?_, ⟨_, rfl⟩, hW, hsame.mono (by decide) (by decide)⟩
            show own_Q9 Z p_1 h0 n0 _ s₁.heap _
            rw [e0]
            exact ⟨((9 : Int32) - ((v35.toUInt32 >>> ((1 : Int32) &&& 31).toUInt32).toInt32)), rfl, N0, rfl, (own_t9_11 p_1 v25 v32 v35 hc1 hc2 hdv25 hc26 hc27 hdv32 hc33 hdv35)⟩
      · refine own_go (fun _ k => XS.icmpNo X0.here hx rfl (hb hby own_d9_37) rfl (Jvm.Free.XT.ii_lt_f hc26) k) ?_
        show own_Go _ _ _ _ s₁ (mkF m 40 #[.val (.int v25), .val (.int (15 : Int32))] [])
        refine own_go (fun _ k => XS.iinc X0.here hx rfl (hb hby own_d9_40) rfl (l' := #[.val (.int v25), .val (.int (7 : Int32))]) rfl k) ?_
        show own_Go _ _ _ _ s₁ (mkF m 43 #[.val (.int v25), .val (.int (7 : Int32))] [])
        refine own_go (fun _ k => XS.iloadN X0.here hx rfl (hb hby own_d9_43) rfl k) ?_
        show own_Go _ _ _ _ s₁ (mkF m 44 #[.val (.int v25), .val (.int (7 : Int32))] [(.int v25)])
        refine own_go (fun _ k => XS.bipush X0.here hx rfl (hb hby own_d9_44) k) ?_
        show own_Go _ _ _ _ s₁ (mkF m 46 #[.val (.int v25), .val (.int (7 : Int32))] [(.int (8 : Int32)), (.int v25)])
        refine own_go (fun _ k => XS.iushr X0.here hx rfl (hb hby own_d9_46) rfl k) ?_
        show own_Go _ _ _ _ s₁ (mkF m 47 #[.val (.int v25), .val (.int (7 : Int32))] [(.int ((v25.toUInt32 >>> ((8 : Int32) &&& 31).toUInt32).toInt32))])
        refine own_go (fun _ k => XS.istoreN X0.here hx rfl (hb hby own_d9_47) rfl (l' := #[.val (.int ((v25.toUInt32 >>> ((8 : Int32) &&& 31).toUInt32).toInt32)), .val (.int (7 : Int32))]) rfl k) ?_
        show own_Go _ _ _ _ s₁ (mkF m 48 #[.val (.int ((v25.toUInt32 >>> ((8 : Int32) &&& 31).toUInt32).toInt32)), .val (.int (7 : Int32))] [])
        generalize hdv37 : ((v25.toUInt32 >>> ((8 : Int32) &&& 31).toUInt32).toInt32) = v37
        show own_Go _ _ _ _ s₁ (mkF m 48 #[.val (.int v37), .val (.int (7 : Int32))] [])
        refine own_go (fun _ k => XS.iloadN X0.here hx rfl (hb hby own_d9_48) rfl k) ?_
        show own_Go _ _ _ _ s₁ (mkF m 49 #[.val (.int v37), .val (.int (7 : Int32))] [(.int v37)])
        refine own_go (fun _ k => XS.bipush X0.here hx rfl (hb hby own_d9_49) k) ?_
        show own_Go _ _ _ _ s₁ (mkF m 51 #[.val (.int v37), .val (.int (7 : Int32))] [(.int (16 : Int32)), (.int v37)])
        by_cases hc38 : v37 < (16 : Int32)
        · refine own_go (fun _ k => XS.icmpYes X0.here hx rfl (pc0 := 51) (pc' := 61) rfl (hb hby own_d9_51) rfl (Jvm.Free.XT.ii_lt_t hc38) (by decide) (by decide) k) ?_
          show own_Go _ _ _ _ s₁ (mkF m 61 #[.val (.int v37), .val (.int (7 : Int32))] [])
          refine own_go (fun _ k => XS.iloadN X0.here hx rfl (hb hby own_d9_61) rfl k) ?_
          show own_Go _ _ _ _ s₁ (mkF m 62 #[.val (.int v37), .val (.int (7 : Int32))] [(.int v37)])
          refine own_go (fun _ k => XS.iconst X0.here hx rfl (hb hby own_d9_62) k) ?_
          show own_Go _ _ _ _ s₁ (mkF m 63 #[.val (.int v37), .val (.int (7 : Int32))] [(.int (4 : Int32)), (.int v37)])
          by_cases hc39 : v37 < (4 : Int32)
          · refine own_go (fun _ k => XS.icmpYes X0.here hx rfl (pc0 := 63) (pc' := 73) rfl (hb hby own_d9_63) rfl (Jvm.Free.XT.ii_lt_t hc39) (by decide) (by decide) k) ?_
            show own_Go _ _ _ _ s₁ (mkF m 73 #[.val (.int v37), .val (.int (7 : Int32))] [])
            refine own_go (fun _ k => XS.iloadN X0.here hx rfl (hb hby own_d9_73) rfl k) ?_
            show own_Go _ _ _ _ s₁ (mkF m 74 #[.val (.int v37), .val (.int (7 : Int32))] [(.int (7 : Int32))])
            refine own_go (fun _ k => XS.iloadN X0.here hx rfl (hb hby own_d9_74) rfl k) ?_
            show own_Go _ _ _ _ s₁ (mkF m 75 #[.val (.int v37), .val (.int (7 : Int32))] [(.int v37), (.int (7 : Int32))])
            refine own_go (fun _ k => XS.iconst X0.here hx rfl (hb hby own_d9_75) k) ?_
            show own_Go _ _ _ _ s₁ (mkF m 76 #[.val (.int v37), .val (.int (7 : Int32))] [(.int (1 : Int32)), (.int v37), (.int (7 : Int32))])
            refine own_go (fun _ k => XS.iushr X0.here hx rfl (hb hby own_d9_76) rfl k) ?_
            show own_Go _ _ _ _ s₁ (mkF m 77 #[.val (.int v37), .val (.int (7 : Int32))] [(.int ((v37.toUInt32 >>> ((1 : Int32) &&& 31).toUInt32).toInt32)), (.int (7 : Int32))])
            refine own_go (fun _ k => XS.isub X0.here hx rfl (hb hby own_d9_77) rfl k) ?_
            show own_Go _ _ _ _ s₁ (mkF m 78 #[.val (.int v37), .val (.int (7 : Int32))] [(.int ((7 : Int32) - ((v37.toUInt32 >>> ((1 : Int32) &&& 31).toUInt32).toInt32)))])
            obtain ⟨fs, hr, hrun, hended, hW, hsame⟩ := X0.leave (v := some (.int ((7 : Int32) - ((v37.toUInt32 >>> ((1 : Int32) &&& 31).toUInt32).toInt32)))) (fun h => by rw [Bd.returns] at h; cases h)
            refine ⟨_, _, retOut X0 hx Bd.returns rfl (Or.inl ⟨rfl, Or.inl rfl, _, rfl⟩) (hb hby own_d9_78) hr, hrun, hended, _, _, rfl, ?_, ⟨_, rfl⟩, hW, hsame.mono (by decide) (by decide)⟩
            show own_Q9 Z p_1 h0 n0 _ s₁.heap _
            rw [e0]
            exact ⟨((7 : Int32) - ((v37.toUInt32 >>> ((1 : Int32) &&& 31).toUInt32).toInt32)), rfl, N0, rfl, (own_t9_12 p_1 v25 v37 hc1 hc2 hdv25 hc26 hdv37 hc38 hc39)⟩
          · refine own_go (fun _ k => XS.icmpNo X0.here hx rfl (hb hby own_d9_63) rfl (Jvm.Free.XT.ii_lt_f hc39) k) ?_
            show own_Go _ _ _ _ s₁ (mkF m 66 #[.val (.int v37), .val (.int (7 : Int32))] [])
            refine own_go (fun _ k => XS.iinc X0.here hx rfl (hb hby own_d9_66) rfl (l' := #[.val (.int v37), .val (.int (5 : Int32))]) rfl k) ?_
            show own_Go _ _ _ _ s₁ (mkF m 69 #[.val (.int v37), .val (.int (5 : Int32))] [])
            refine own_go (fun _ k => XS.iloadN X0.here hx rfl (hb hby own_d9_69) rfl k) ?_
            show own_Go _ _ _ _ s₁ (mkF m 70 #[.val (.int v37), .val (.int (5 : Int32))] [(.int v37)])
            refine own_go (fun _ k => XS.iconst X0.here hx rfl (hb hby own_d9_70) k) ?_
            show own_Go _ _ _ _ s₁ (mkF m 71 #[.val (.int v37), .val (.int (5 : Int32))] [(.int (2 : Int32)), (.int v37)])
            refine own_go (fun _ k => XS.iushr X0.here hx rfl (hb hby own_d9_71) rfl k) ?_
            show own_Go _ _ _ _ s₁ (mkF m 72 #[.val (.int v37), .val (.int (5 : Int32))] [(.int ((v37.toUInt32 >>> ((2 : Int32) &&& 31).toUInt32).toInt32))])
            refine own_go (fun _ k => XS.istoreN X0.here hx rfl (hb hby own_d9_72) rfl (l' := #[.val (.int ((v37.toUInt32 >>> ((2 : Int32) &&& 31).toUInt32).toInt32)), .val (.int (5 : Int32))]) rfl k) ?_
            show own_Go _ _ _ _ s₁ (mkF m 73 #[.val (.int ((v37.toUInt32 >>> ((2 : Int32) &&& 31).toUInt32).toInt32)), .val (.int (5 : Int32))] [])
            generalize hdv41 : ((v37.toUInt32 >>> ((2 : Int32) &&& 31).toUInt32).toInt32) = v41
            show own_Go _ _ _ _ s₁ (mkF m 73 #[.val (.int v41), .val (.int (5 : Int32))] [])
            refine own_go (fun _ k => XS.iloadN X0.here hx rfl (hb hby own_d9_73) rfl k) ?_
            show own_Go _ _ _ _ s₁ (mkF m 74 #[.val (.int v41), .val (.int (5 : Int32))] [(.int (5 : Int32))])
            refine own_go (fun _ k => XS.iloadN X0.here hx rfl (hb hby own_d9_74) rfl k) ?_
            show own_Go _ _ _ _ s₁ (mkF m 75 #[.val (.int v41), .val (.int (5 : Int32))] [(.int v41), (.int (5 : Int32))])
            refine own_go (fun _ k => XS.iconst X0.here hx rfl (hb hby own_d9_75) k) ?_
            show own_Go _ _ _ _ s₁ (mkF m 76 #[.val (.int v41), .val (.int (5 : Int32))] [(.int (1 : Int32)), (.int v41), (.int (5 : Int32))])
            refine own_go (fun _ k => XS.iushr X0.here hx rfl (hb hby own_d9_76) rfl k) ?_
            show own_Go _ _ _ _ s₁ (mkF m 77 #[.val (.int v41), .val (.int (5 : Int32))] [(.int ((v41.toUInt32 >>> ((1 : Int32) &&& 31).toUInt32).toInt32)), (.int (5 : Int32))])
            refine own_go (fun _ k => XS.isub X0.here hx rfl (hb hby own_d9_77) rfl k) ?_
            show own_Go _ _ _ _ s₁ (mkF m 78 #[.val (.int v41), .val (.int (5 : Int32))] [(.int ((5 : Int32) - ((v41.toUInt32 >>> ((1 : Int32) &&& 31).toUInt32).toInt32)))])
            obtain ⟨fs, hr, hrun, hended, hW, hsame⟩ := X0.leave (v := some (.int ((5 : Int32) - ((v41.toUInt32 >>> ((1 : Int32) &&& 31).toUInt32).toInt32)))) (fun h => by rw [Bd.returns] at h; cases h)
            refine ⟨_, _, retOut X0 hx Bd.returns rfl (Or.inl ⟨rfl, Or.inl rfl, _, rfl⟩) (hb hby own_d9_78) hr, hrun, hended, _, _, rfl, ?_, ⟨_, rfl⟩, hW, hsame.mono (by decide) (by decide)⟩
            show own_Q9 Z p_1 h0 n0 _ s₁.heap _
            rw [e0]
            exact ⟨((5 : Int32) - ((v41.toUInt32 >>> ((1 : Int32) &&& 31).toUInt32).toInt32)), rfl, N0, rfl, (own_t9_13 p_1 v25 v37 v41 hc1 hc2 hdv25 hc26 hdv37 hc38 hc39 hdv41)⟩
        · refine own_go (fun _ k => XS.icmpNo X0.here hx rfl (hb hby own_d9_51) rfl (Jvm.Free.XT.ii_lt_f hc38) k) ?_
          show own_Go _ _ _ _ s₁ (mkF m 54 #[.val (.int v37), .val (.int (7 : Int32))] [])
          refine own_go (fun _ k => XS.iinc X0.here hx rfl (hb hby own_d9_54) rfl (l' := #[.val (.int v37), .val (.int (3 : Int32))]) rfl k) ?_
          show own_Go _ _ _ _ s₁ (mkF m 57 #[.val (.int v37), .val (.int (3 : Int32))] [])
          refine own_go (fun _ k => XS.iloadN X0.here hx rfl (hb hby own_d9_57) rfl k) ?_
          show own_Go _ _ _ _ s₁ (mkF m 58 #[.val (.int v37), .val (.int (3 : Int32))] [(.int v37)])
          refine own_go (fun _ k => XS.iconst X0.here hx rfl (hb hby own_d9_58) k) ?_
          show own_Go _ _ _ _ s₁ (mkF m 59 #[.val (.int v37), .val (.int (3 : Int32))] [(.int (4 : Int32)), (.int v37)])
          refine own_go (fun _ k => XS.iushr X0.here hx rfl (hb hby own_d9_59) rfl k) ?_
          show own_Go _ _ _ _ s₁ (mkF m 60 #[.val (.int v37), .val (.int (3 : Int32))] [(.int ((v37.toUInt32 >>> ((4 : Int32) &&& 31).toUInt32).toInt32))])
          refine own_go (fun _ k => XS.istoreN X0.here hx rfl (hb hby own_d9_60) rfl (l' := #[.val (.int ((v37.toUInt32 >>> ((4 : Int32) &&& 31).toUInt32).toInt32)), .val (.int (3 : Int32))]) rfl k) ?_
          show own_Go _ _ _ _ s₁ (mkF m 61 #[.val (.int ((v37.toUInt32 >>> ((4 : Int32) &&& 31).toUInt32).toInt32)), .val (.int (3 : Int32))] [])
          generalize hdv43 : ((v37.toUInt32 >>> ((4 : Int32) &&& 31).toUInt32).toInt32) = v43
          show own_Go _ _ _ _ s₁ (mkF m 61 #[.val (.int v43), .val (.int (3 : Int32))] [])
          refine own_go (fun _ k => XS.iloadN X0.here hx rfl (hb hby own_d9_61) rfl k) ?_
          show own_Go _ _ _ _ s₁ (mkF m 62 #[.val (.int v43), .val (.int (3 : Int32))] [(.int v43)])
          refine own_go (fun _ k => XS.iconst X0.here hx rfl (hb hby own_d9_62) k) ?_
          show own_Go _ _ _ _ s₁ (mkF m 63 #[.val (.int v43), .val (.int (3 : Int32))] [(.int (4 : Int32)), (.int v43)])
          by_cases hc44 : v43 < (4 : Int32)
          · refine own_go (fun _ k => XS.icmpYes X0.here hx rfl (pc0 := 63) (pc' := 73) rfl (hb hby own_d9_63) rfl (Jvm.Free.XT.ii_lt_t hc44) (by decide) (by decide) k) ?_
            show own_Go _ _ _ _ s₁ (mkF m 73 #[.val (.int v43), .val (.int (3 : Int32))] [])
            refine own_go (fun _ k => XS.iloadN X0.here hx rfl (hb hby own_d9_73) rfl k) ?_
            show own_Go _ _ _ _ s₁ (mkF m 74 #[.val (.int v43), .val (.int (3 : Int32))] [(.int (3 : Int32))])
            refine own_go (fun _ k => XS.iloadN X0.here hx rfl (hb hby own_d9_74) rfl k) ?_
            show own_Go _ _ _ _ s₁ (mkF m 75 #[.val (.int v43), .val (.int (3 : Int32))] [(.int v43), (.int (3 : Int32))])
            refine own_go (fun _ k => XS.iconst X0.here hx rfl (hb hby own_d9_75) k) ?_
            show own_Go _ _ _ _ s₁ (mkF m 76 #[.val (.int v43), .val (.int (3 : Int32))] [(.int (1 : Int32)), (.int v43), (.int (3 : Int32))])
            refine own_go (fun _ k => XS.iushr X0.here hx rfl (hb hby own_d9_76) rfl k) ?_
            show own_Go _ _ _ _ s₁ (mkF m 77 #[.val (.int v43), .val (.int (3 : Int32))] [(.int ((v43.toUInt32 >>> ((1 : Int32) &&& 31).toUInt32).toInt32)), (.int (3 : Int32))])
            refine own_go (fun _ k => XS.isub X0.here hx rfl (hb hby own_d9_77) rfl k) ?_
            show own_Go _ _ _ _ s₁ (mkF m 78 #[.val (.int v43), .val (.int (3 : Int32))] [(.int ((3 : Int32) - ((v43.toUInt32 >>> ((1 : Int32) &&& 31).toUInt32).toInt32)))])
            obtain ⟨fs, hr, hrun, hended, hW, hsame⟩ := X0.leave (v := some (.int ((3 : Int32) - ((v43.toUInt32 >>> ((1 : Int32) &&& 31).toUInt32).toInt32)))) (fun h => by rw [Bd.returns] at h; cases h)
            refine ⟨_, _, retOut X0 hx Bd.returns rfl (Or.inl ⟨rfl, Or.inl rfl, _, rfl⟩) (hb hby own_d9_78) hr, hrun, hended, _, _, rfl, ?_, ⟨_, rfl⟩, hW, hsame.mono (by decide) (by decide)⟩
            show own_Q9 Z p_1 h0 n0 _ s₁.heap _
            rw [e0]
            exact ⟨((3 : Int32) - ((v43.toUInt32 >>> ((1 : Int32) &&& 31).toUInt32).toInt32)), rfl, N0, rfl, (own_t9_14 p_1 v25 v37 v43 hc1 hc2 hdv25 hc26 hdv37 hc38 hdv43 hc44)⟩
          · refine own_go (fun _ k => XS.icmpNo X0.here hx rfl (hb hby own_d9_63) rfl (Jvm.Free.XT.ii_lt_f hc44) k) ?_
            show own_Go _ _ _ _ s₁ (mkF m 66 #[.val (.int v43), .val (.int (3 : Int32))] [])
            refine own_go (fun _ k => XS.iinc X0.here hx rfl (hb hby own_d9_66) rfl (l' := #[.val (.int v43), .val (.int (1 : Int32))]) rfl k) ?_
            show own_Go _ _ _ _ s₁ (mkF m 69 #[.val (.int v43), .val (.int (1 : Int32))] [])
            refine own_go (fun _ k => XS.iloadN X0.here hx rfl (hb hby own_d9_69) rfl k) ?_
            show own_Go _ _ _ _ s₁ (mkF m 70 #[.val (.int v43), .val (.int (1 : Int32))] [(.int v43)])
            refine own_go (fun _ k => XS.iconst X0.here hx rfl (hb hby own_d9_70) k) ?_
            show own_Go _ _ _ _ s₁ (mkF m 71 #[.val (.int v43), .val (.int (1 : Int32))] [(.int (2 : Int32)), (.int v43)])
            refine own_go (fun _ k => XS.iushr X0.here hx rfl (hb hby own_d9_71) rfl k) ?_
            show own_Go _ _ _ _ s₁ (mkF m 72 #[.val (.int v43), .val (.int (1 : Int32))] [(.int ((v43.toUInt32 >>> ((2 : Int32) &&& 31).toUInt32).toInt32))])
            refine own_go (fun _ k => XS.istoreN X0.here hx rfl (hb hby own_d9_72) rfl (l' := #[.val (.int ((v43.toUInt32 >>> ((2 : Int32) &&& 31).toUInt32).toInt32)), .val (.int (1 : Int32))]) rfl k) ?_
            show own_Go _ _ _ _ s₁ (mkF m 73 #[.val (.int ((v43.toUInt32 >>> ((2 : Int32) &&& 31).toUInt32).toInt32)), .val (.int (1 : Int32))] [])
            generalize hdv46 : ((v43.toUInt32 >>> ((2 : Int32) &&& 31).toUInt32).toInt32) = v46
            show own_Go _ _ _ _ s₁ (mkF m 73 #[.val (.int v46), .val (.int (1 : Int32))] [])
            refine own_go (fun _ k => XS.iloadN X0.here hx rfl (hb hby own_d9_73) rfl k) ?_
            show own_Go _ _ _ _ s₁ (mkF m 74 #[.val (.int v46), .val (.int (1 : Int32))] [(.int (1 : Int32))])
            refine own_go (fun _ k => XS.iloadN X0.here hx rfl (hb hby own_d9_74) rfl k) ?_
            show own_Go _ _ _ _ s₁ (mkF m 75 #[.val (.int v46), .val (.int (1 : Int32))] [(.int v46), (.int (1 : Int32))])
            refine own_go (fun _ k => XS.iconst X0.here hx rfl (hb hby own_d9_75) k) ?_
            show own_Go _ _ _ _ s₁ (mkF m 76 #[.val (.int v46), .val (.int (1 : Int32))] [(.int (1 : Int32)), (.int v46), (.int (1 : Int32))])
            refine own_go (fun _ k => XS.iushr X0.here hx rfl (hb hby own_d9_76) rfl k) ?_
            show own_Go _ _ _ _ s₁ (mkF m 77 #[.val (.int v46), .val (.int (1 : Int32))] [(.int ((v46.toUInt32 >>> ((1 : Int32) &&& 31).toUInt32).toInt32)), (.int (1 : Int32))])
            refine own_go (fun _ k => XS.isub X0.here hx rfl (hb hby own_d9_77) rfl k) ?_
            show own_Go _ _ _ _ s₁ (mkF m 78 #[.val (.int v46), .val (.int (1 : Int32))] [(.int ((1 : Int32) - ((v46.toUInt32 >>> ((1 : Int32) &&& 31).toUInt32).toInt32)))])
            obtain ⟨fs, hr, hrun, hended, hW, hsame⟩ := X0.leave (v := some (.int ((1 : Int32) - ((v46.toUInt32 >>> ((1 : Int32) &&& 31).toUInt32).toInt32)))) (fun h => by rw [Bd.returns] at h; cases h)
            refine ⟨_, _, retOut X0 hx Bd.returns rfl (Or.inl ⟨rfl, Or.inl rfl, _, rfl⟩) (hb hby own_d9_78) hr, hrun, hended, _, _, rfl, ?_, ⟨_, rfl⟩, hW, hsame.mono (by decide) (by decide)⟩
            show own_Q9 Z p_1 h0 n0 _ s₁.heap _
            rw [e0]
            exact ⟨((1 : Int32) - ((v46.toUInt32 >>> ((1 : Int32) &&& 31).toUInt32).toInt32)), rfl, N0, rfl, (own_t9_15 p_1 v25 v37 v43 v46 hc1 hc2 hdv25 hc26 hdv37 hc38 hdv43 hc44 hdv46)⟩
  · refine own_go (fun _ k => XS.ifNo X0.here hx rfl (hb hby own_d9_1) rfl (Jvm.Free.XT.i0_gt_f hc1) k) ?_
    show own_Go _ _ _ _ s₁ (mkF m 4 #[.val (.int p_1), .unset] [])
    refine own_go (fun _ k => XS.iloadN X0.here hx rfl (hb hby own_d9_4) rfl k) ?_
    show own_Go _ _ _ _ s₁ (mkF m 5 #[.val (.int p_1), .unset] [(.int p_1)])
    by_cases hc48 : p_1 = 0
    · refine own_go (fun _ k => XS.ifNo X0.here hx rfl (hb hby own_d9_5) rfl (Jvm.Free.XT.i0_ne_f hc48) k) ?_
      show own_Go _ _ _ _ s₁ (mkF m 8 #[.val (.int p_1), .unset] [])
      refine own_go (fun _ k => XS.bipush X0.here hx rfl (hb hby own_d9_8) k) ?_
      show own_Go _ _ _ _ s₁ (mkF m 10 #[.val (.int p_1), .unset] [(.int (32 : Int32))])
      refine own_go (fun _ k => XS.goto X0.here hx rfl (pc0 := 10) (pc' := 14) rfl (hb hby own_d9_10) (by decide) (by decide) k) ?_
      show own_Go _ _ _ _ s₁ (mkF m 14 #[.val (.int p_1), .unset] [(.int (32 : Int32))])
      obtain ⟨fs, hr, hrun, hended, hW, hsame⟩ := X0.leave (v := some (.int (32 : Int32))) (fun h => by rw [Bd.returns] at h; cases h)
      refine ⟨_, _, retOut X0 hx Bd.returns rfl (Or.inl ⟨rfl, Or.inl rfl, _, rfl⟩) (hb hby own_d9_14) hr, hrun, hended, _, _, rfl, ?_, ⟨_, rfl⟩, hW, hsame.mono (by decide) (by decide)⟩
      show own_Q9 Z p_1 h0 n0 _ s₁.heap _
      rw [e0]
      exact ⟨(32 : Int32), rfl, N0, rfl, (own_t9_16 p_1 hc1 hc48)⟩
    · refine own_go (fun _ k => XS.ifYes X0.here hx rfl (pc0 := 5) (pc' := 13) rfl (hb hby own_d9_5) rfl (Jvm.Free.XT.i0_ne_t hc48) (by decide) (by decide) k) ?_
      show own_Go _ _ _ _ s₁ (mkF m 13 #[.val (.int p_1), .unset] [])
      refine own_go (fun _ k => XS.iconst X0.here hx rfl (hb hby own_d9_13) k) ?_
      show own_Go _ _ _ _ s₁ (mkF m 14 #[.val (.int p_1), .unset] [(.int (0 : Int32))])
      obtain ⟨fs, hr, hrun, hended, hW, hsame⟩ := X0.leave (v := some (.int (0 : Int32))) (fun h => by rw [Bd.returns] at h; cases h)
      refine ⟨_, _, retOut X0 hx Bd.returns rfl (Or.inl ⟨rfl, Or.inl rfl, _, rfl⟩) (hb hby own_d9_14) hr, hrun, hended, _, _, rfl, ?_, ⟨_, rfl⟩, hW, hsame.mono (by decide) (by decide)⟩
      show own_Q9 Z p_1 h0 n0 _ s₁.heap _
      rw [e0]
      exact ⟨(0 : Int32), rfl, N0, rfl, (own_t9_17 p_1 hc1 hc48)⟩
theorem own_ef_own_rm8 (m : MethodId) (x0 : Int32) : entryFrame m #[(.int x0)] 3 = mkF m 0 #[.val (.int x0), .unset, .unset] [] := by first | (simp [entryFrame, mkF, argsToLocals, Value.category]; done) | rfl
set_option maxRecDepth 65536 in
set_option maxHeartbeats 4000000 in
theorem own_t8_0 (p_1 : Int32) (v1 : Int32) (r3 : Int32) (v5 : Int32) (r8 : Int32) (hdv1 : ((p_1 <<< ((1 : Int32) &&& 31)) ^^^ (p_1 >>> ((31 : Int32) &&& 31))) = v1) (f4 : (v1.toInt < 0 ∧ r3.toInt = 0) ∨ (v1.toInt = 0 ∧ r3.toInt = 32) ∨ (0 < v1.toInt ∧ v1.toInt < 128 ∧ 25 ≤ r3.toInt ∧ r3.toInt ≤ 31) ∨ (128 ≤ v1.toInt ∧ v1.toInt < 16384 ∧ 18 ≤ r3.toInt ∧ r3.toInt ≤ 24) ∨ (16384 ≤ v1.toInt ∧ v1.toInt < 2097152 ∧ 11 ≤ r3.toInt ∧ r3.toInt ≤ 17) ∨ (2097152 ≤ v1.toInt ∧ v1.toInt < 268435456 ∧ 4 ≤ r3.toInt ∧ r3.toInt ≤ 10) ∨ (268435456 ≤ v1.toInt ∧ 0 ≤ r3.toInt ∧ r3.toInt ≤ 3)) (hdv5 : ((32 : Int32) - r3) = v5) (f9 : ((1 : Int32).toInt < ((v5 + (6 : Int32)) / (7 : Int32)).toInt ∧ r8.toInt = ((v5 + (6 : Int32)) / (7 : Int32)).toInt) ∨ (((v5 + (6 : Int32)) / (7 : Int32)).toInt ≤ (1 : Int32).toInt ∧ r8.toInt = (1 : Int32).toInt)) : p_1.toInt < 0 ∨ (p_1.toInt < 64 ∧ r8.toInt = 1) ∨ (64 ≤ p_1.toInt ∧ p_1.toInt < 8192 ∧ r8.toInt = 2) ∨ (8192 ≤ p_1.toInt ∧ p_1.toInt < 1048576 ∧ r8.toInt = 3) ∨ (1048576 ≤ p_1.toInt ∧ p_1.toInt < 134217728 ∧ r8.toInt = 4) ∨ (134217728 ≤ p_1.toInt ∧ r8.toInt = 5) := by
  rcases own_zig p_1 with hz | ⟨h0, hz⟩
  · exact Or.inl hz
  rw [hdv1] at hz
  have q1 := rng32 v1
  have q2 := rng32 p_1
  have e1 : (1 : Int32).toInt = 1 := by decide
  have e6 : (6 : Int32).toInt = 6 := by decide
  have e32 : (32 : Int32).toInt = 32 := by decide
  have hr : 0 ≤ r3.toInt ∧ r3.toInt ≤ 32 := by omega
  have a5 : v5.toInt = 32 - r3.toInt := by
    have x := c_isub 32 r3
    have y := rng32 ((32 : Int32) - r3)
    rw [hdv5] at x y
    omega
  have a6 : (v5 + (6 : Int32)).toInt = 38 - r3.toInt := by
    have x := c_iadd v5 6
    have y := rng32 (v5 + (6 : Int32))
    omega
  have a7 : ((v5 + (6 : Int32)) / (7 : Int32)).toInt = (38 - r3.toInt) / 7 := by
    have x := (c_idiv (v5 + (6 : Int32)) 7 7 (by decide) (by decide)).1 (by omega)
    rw [x, a6]
  rw [a7, e1] at f9
  have hv : v1.toInt = 2 * p_1.toInt ∨ v1.toInt = 2 * p_1.toInt - 4294967296 := by omega
  clear hz a7 a6 a5 hdv1 hdv5
  rcases f4 with f4 | f4 | f4 | f4 | f4 | f4 | f4
  · refine Or.inr (Or.inr (Or.inr (Or.inr (Or.inr (?_))))); omega
  · refine Or.inr (Or.inl ?_); omega
  · refine Or.inr (Or.inl ?_); omega
  · refine Or.inr (Or.inr (Or.inl ?_)); omega
  · refine Or.inr (Or.inr (Or.inr (Or.inl ?_))); omega
  · refine Or.inr (Or.inr (Or.inr (Or.inr (Or.inl ?_)))); omega
  · refine Or.inr (Or.inr (Or.inr (Or.inr (Or.inr (?_))))); omega
def own_Q8 (Z : State) (p_1 : Int32) (h0 : Heap) (n0 : Nat) (v : Option Value) (h : Heap) (L : List Loc) : Prop := ∃ (r : Int32), v = some (.int r) ∧ Fr n0 L ∧ h = h0 ∧ (p_1.toInt < 0 ∨ (p_1.toInt < 64 ∧ r.toInt = 1) ∨ (64 ≤ p_1.toInt ∧ p_1.toInt < 8192 ∧ r.toInt = 2) ∨ (8192 ≤ p_1.toInt ∧ p_1.toInt < 1048576 ∧ r.toInt = 3) ∨ (1048576 ≤ p_1.toInt ∧ p_1.toInt < 134217728 ∧ r.toInt = 4) ∨ (134217728 ≤ p_1.toInt ∧ r.toInt = 5))
set_option maxRecDepth 65536 in
set_option maxHeartbeats 40000000 in
theorem own_rm8 (l : Launch) (Z : State) (a0 : Array Value) (hw : ∀ d ∈ tables_1, d.before a0 Z = true) (ws : List Jvm.Cond) (p_1 : Int32) (h0 : Heap) (n0 : Nat) (Z0 : n0 ≤ h0.size) :
    MetFree l (⟨"com/example/fencepost/fencepost/connector/RecordLimit", "varintSize", "(I)I"⟩ : MethodName) (head1 (Jvm.Cond.code (⟨"com/example/fencepost/fencepost/connector/RecordLimit", "varintSize", "(I)I"⟩ : MethodName) prog_16_method_9_code 3 (some .int) :: ws) ({ frames := 1, cells := 0, slots := 0, locals := 14 } : Room)) (fun a U => a = #[(.int p_1)] ∧ Z.Warmed39 U.vm ∧ U.heap = h0) (fun _ _ _ _ _ => True) (fun _ U o U' => ∃ v L, o = .returned v ∧ own_Q8 Z p_1 h0 n0 v U'.heap L ∧ FrameEnd U o U' L ({ frames := 1, cells := 0, slots := 0, locals := 14 } : Room).cells ({ frames := 1, cells := 0, slots := 0, locals := 14 } : Room).slots) := by
  refine MetFree.of_bodySF (plainFor_of_name own_pn1) hisR ?_
  intro p e s m args below meth c s₁ Bd hml0 hP hK
  obtain ⟨rfl, hZ, hh⟩ := hP
  have hx := Bd.exec
  have hby := Bd.bytes
  have hml : c.maxLocals = 3 := hml0
  have hown : s.vm.findClass "com/example/fencepost/fencepost/connector/RecordLimit" = some m.cls := findClass_of_methodNamed Bd.named
  have hnm := (name_of_methodNamed Bd.named Bd.method).1
  have X0 : Stand p l e ({ frames := 1, cells := 0, slots := 0, locals := 14 } : Room) s m #[(.int p_1)] below meth c s₁ [] 0 0 := Stand.of_body Bd
  have e0 : s₁.heap = h0 := by rw [← hh, Bd.state]; rfl
  have N0 := Fr.nil n0
  have z0 : n0 ≤ h0.size := Z0
  show own_Go p.tables e below (fun t o => t.status = .running ∧ Ended t below o ∧ ∃ v L, o = .returned v ∧ own_Q8 Z p_1 h0 n0 v t.heap L ∧ FrameEnd s o t L ({ frames := 1, cells := 0, slots := 0, locals := 14 } : Room).cells ({ frames := 1, cells := 0, slots := 0, locals := 14 } : Room).slots) s₁ (entryFrame m #[(.int p_1)] 3)
  rw [own_ef_own_rm8 m p_1]
  show own_Go _ _ _ _ s₁ (mkF m 0 #[.val (.int p_1), .unset, .unset] [])
  refine own_go (fun _ k => XS.iloadN X0.here hx rfl (hb hby own_d8_0) rfl k) ?_
  show own_Go _ _ _ _ s₁ (mkF m 1 #[.val (.int p_1), .unset, .unset] [(.int p_1)])
  refine own_go (fun _ k => XS.iconst X0.here hx rfl (hb hby own_d8_1) k) ?_
  show own_Go _ _ _ _ s₁ (mkF m 2 #[.val (.int p_1), .unset, .unset] [(.int (1 : Int32)), (.int p_1)])
  refine own_go (fun _ k => XS.ishl X0.here hx rfl (hb hby own_d8_2) rfl k) ?_
  show own_Go _ _ _ _ s₁ (mkF m 3 #[.val (.int p_1), .unset, .unset] [(.int (p_1 <<< ((1 : Int32) &&& 31)))])
  refine own_go (fun _ k => XS.iloadN X0.here hx rfl (hb hby own_d8_3) rfl k) ?_
  show own_Go _ _ _ _ s₁ (mkF m 4 #[.val (.int p_1), .unset, .unset] [(.int p_1), (.int (p_1 <<< ((1 : Int32) &&& 31)))])
  refine own_go (fun _ k => XS.bipush X0.here hx rfl (hb hby own_d8_4) k) ?_
  show own_Go _ _ _ _ s₁ (mkF m 6 #[.val (.int p_1), .unset, .unset] [(.int (31 : Int32)), (.int p_1), (.int (p_1 <<< ((1 : Int32) &&& 31)))])
  refine own_go (fun _ k => XS.ishr X0.here hx rfl (hb hby own_d8_6) rfl k) ?_
  show own_Go _ _ _ _ s₁ (mkF m 7 #[.val (.int p_1), .unset, .unset] [(.int (p_1 >>> ((31 : Int32) &&& 31))), (.int (p_1 <<< ((1 : Int32) &&& 31)))])
  refine own_go (fun _ k => XS.ixor X0.here hx rfl (hb hby own_d8_7) rfl k) ?_
  show own_Go _ _ _ _ s₁ (mkF m 8 #[.val (.int p_1), .unset, .unset] [(.int ((p_1 <<< ((1 : Int32) &&& 31)) ^^^ (p_1 >>> ((31 : Int32) &&& 31))))])
  refine own_go (fun _ k => XS.istoreN X0.here hx rfl (hb hby own_d8_8) rfl (l' := #[.val (.int p_1), .val (.int ((p_1 <<< ((1 : Int32) &&& 31)) ^^^ (p_1 >>> ((31 : Int32) &&& 31)))), .unset]) rfl k) ?_
  show own_Go _ _ _ _ s₁ (mkF m 9 #[.val (.int p_1), .val (.int ((p_1 <<< ((1 : Int32) &&& 31)) ^^^ (p_1 >>> ((31 : Int32) &&& 31)))), .unset] [])
  generalize hdv1 : ((p_1 <<< ((1 : Int32) &&& 31)) ^^^ (p_1 >>> ((31 : Int32) &&& 31))) = v1
  show own_Go _ _ _ _ s₁ (mkF m 9 #[.val (.int p_1), .val (.int v1), .unset] [])
  refine own_go (fun _ k => XS.bipush X0.here hx rfl (hb hby own_d8_9) k) ?_
  show own_Go _ _ _ _ s₁ (mkF m 11 #[.val (.int p_1), .val (.int v1), .unset] [(.int (32 : Int32))])
  refine own_go (fun _ k => XS.iloadN X0.here hx rfl (hb hby own_d8_11) rfl k) ?_
  show own_Go _ _ _ _ s₁ (mkF m 12 #[.val (.int p_1), .val (.int v1), .unset] [(.int v1), (.int (32 : Int32))])
  obtain ⟨_, _, ⟨T2, L2, k2, n2⟩, -, X2, ⟨Lc2, hQ2, l2, y2, z2⟩, st2⟩ := Jvm.LawKit.callS X0 hx (y := (⟨"java/lang/Integer", "numberOfLeadingZeros", "(I)I"⟩ : MethodName)) hown (mvT hZ (hw _ (List.mem_of_getElem? (i := 48) rfl))) (mvT hZ (hw _ (List.mem_of_getElem? (i := 49) rfl))) (mvT hZ (hw _ (List.mem_of_getElem? (i := 50) rfl))) (mvT hZ (hw _ (List.mem_of_getElem? (i := 51) rfl))) (by decide) (backOf (W := 1) (own_rm9 l Z a0 hw [] v1  h0 n0 (by omega) ) hZ (hw _ (List.mem_of_getElem? (i := 51) rfl)) (hw _ (List.mem_of_getElem? (i := 50) rfl)) (by decide) (by decide)) (g := (mkF m 12 #[.val (.int p_1), .val (.int v1), .unset] [(.int v1), (.int (32 : Int32))])) rfl (by rw [hml]; rfl) (argsL := [(.int v1)]) (rest := [(.int (32 : Int32))]) (lenOf own_pd0 rfl) rfl (by show 2 * 0 + _ ≤ _; exact Nat.le_of_eq rfl) (hb hby own_d8_12) (fun _ _ => ⟨rfl, e0, (by decide : 0 + 0 ≤ _), (by decide : 0 + 0 ≤ _)⟩)
  dsimp only [Pt.U, Pt.locs, Pt.cells, Pt.slots] at X2 l2 y2 z2 st2 hQ2
  have y2 : k2 = 0 := y2
  have z2 : n2 = 0 := z2
  obtain ⟨r3, rfl, N2q, e2, f4⟩ := hQ2
  have N2 : Fr n0 L2 := by rw [l2]; exact Fr.app N0 N2q
  refine own_go (fun _ k => st2 _ k) ?_
  show own_Go _ _ _ _ T2 (mkF m 15 #[.val (.int p_1), .val (.int v1), .unset] [(.int r3), (.int (32 : Int32))])
  refine own_go (fun _ k => XS.isub X2.here hx rfl (hb hby own_d8_15) rfl k) ?_
  show own_Go _ _ _ _ T2 (mkF m 16 #[.val (.int p_1), .val (.int v1), .unset] [(.int ((32 : Int32) - r3))])
  refine own_go (fun _ k => XS.istoreN X2.here hx rfl (hb hby own_d8_16) rfl (l' := #[.val (.int p_1), .val (.int v1), .val (.int ((32 : Int32) - r3))]) rfl k) ?_
  show own_Go _ _ _ _ T2 (mkF m 17 #[.val (.int p_1), .val (.int v1), .val (.int ((32 : Int32) - r3))] [])
  generalize hdv5 : ((32 : Int32) - r3) = v5
  show own_Go _ _ _ _ T2 (mkF m 17 #[.val (.int p_1), .val (.int v1), .val (.int v5)] [])
  refine own_go (fun _ k => XS.iconst X2.here hx rfl (hb hby own_d8_17) k) ?_
  show own_Go _ _ _ _ T2 (mkF m 18 #[.val (.int p_1), .val (.int v1), .val (.int v5)] [(.int (1 : Int32))])
  refine own_go (fun _ k => XS.iloadN X2.here hx rfl (hb hby own_d8_18) rfl k) ?_
  show own_Go _ _ _ _ T2 (mkF m 19 #[.val (.int p_1), .val (.int v1), .val (.int v5)] [(.int v5), (.int (1 : Int32))])
  refine own_go (fun _ k => XS.bipush X2.here hx rfl (hb hby own_d8_19) k) ?_
  show own_Go _ _ _ _ T2 (mkF m 21 #[.val (.int p_1), .val (.int v1), .val (.int v5)] [(.int (6 : Int32)), (.int v5), (.int (1 : Int32))])
  refine own_go (fun _ k => XS.iadd X2.here hx rfl (hb hby own_d8_21) rfl k) ?_
  show own_Go _ _ _ _ T2 (mkF m 22 #[.val (.int p_1), .val (.int v1), .val (.int v5)] [(.int (v5 + (6 : Int32))), (.int (1 : Int32))])
  refine own_go (fun _ k => XS.bipush X2.here hx rfl (hb hby own_d8_22) k) ?_
  show own_Go _ _ _ _ T2 (mkF m 24 #[.val (.int p_1), .val (.int v1), .val (.int v5)] [(.int (7 : Int32)), (.int (v5 + (6 : Int32))), (.int (1 : Int32))])
  have nz6 : (7 : Int32) ≠ 0 := by decide
  refine own_go (fun _ k => XS.idiv X2.here hx rfl (hb hby own_d8_24) rfl nz6 k) ?_
  show own_Go _ _ _ _ T2 (mkF m 25 #[.val (.int p_1), .val (.int v1), .val (.int v5)] [(.int ((v5 + (6 : Int32)) / (7 : Int32))), (.int (1 : Int32))])
  obtain ⟨_, _, ⟨T7, L7, k7, n7⟩, -, X7, ⟨Lc7, hQ7, l7, y7, z7⟩, st7⟩ := Jvm.LawKit.callS X2 hx (y := (⟨"java/lang/Math", "max", "(II)I"⟩ : MethodName)) hown (mvT hZ (hw _ (List.mem_of_getElem? (i := 53) rfl))) (mvT hZ (hw _ (List.mem_of_getElem? (i := 54) rfl))) (mvT hZ (hw _ (List.mem_of_getElem? (i := 55) rfl))) (mvT hZ (hw _ (List.mem_of_getElem? (i := 56) rfl))) (by decide) (backOf (W := 0) (own_rm10 l Z a0 hw [] (1 : Int32) ((v5 + (6 : Int32)) / (7 : Int32))  h0 n0 (by omega) ) hZ (hw _ (List.mem_of_getElem? (i := 56) rfl)) (hw _ (List.mem_of_getElem? (i := 55) rfl)) (by decide) (by decide)) (g := (mkF m 25 #[.val (.int p_1), .val (.int v1), .val (.int v5)] [(.int ((v5 + (6 : Int32)) / (7 : Int32))), (.int (1 : Int32))])) rfl (by rw [hml]; rfl) (argsL := [(.int (1 : Int32)), (.int ((v5 + (6 : Int32)) / (7 : Int32)))]) (rest := []) (lenOf own_pd1 rfl) rfl (by show 2 * 0 + _ ≤ _; exact Nat.le_of_eq rfl) (hb hby own_d8_25) (fun _ _ => ⟨rfl, e2, (by show k2 + _ ≤ _; rw [y2]; decide), (by show n2 + _ ≤ _; rw [z2]; decide)⟩)
  dsimp only [Pt.U, Pt.locs, Pt.cells, Pt.slots] at X7 l7 y7 z7 st7 hQ7
  have y7 : k7 = 0 := own_addeq y7 (congrArg (fun q => q) y2) rfl
  have z7 : n7 = 0 := own_addeq z7 (congrArg (fun q => q) z2) rfl
  obtain ⟨r8, rfl, N7q, e7, f9⟩ := hQ7
  have N7 : Fr n0 L7 := by rw [l7]; exact Fr.app N2 N7q
  refine own_go (fun _ k => st7 _ k) ?_
  show own_Go _ _ _ _ T7 (mkF m 28 #[.val (.int p_1), .val (.int v1), .val (.int v5)] [(.int r8)])
  obtain ⟨fs, hr, hrun, hended, hW, hsame⟩ := X7.leave (v := some (.int r8)) (fun h => by rw [Bd.returns] at h; cases h)
  refine ⟨_, _, retOut X7 hx Bd.returns rfl (Or.inl ⟨rfl, Or.inl rfl, _, rfl⟩) (hb hby own_d8_28) hr, hrun, hended, _, _, rfl, ?_, ⟨_, rfl⟩, hW, hsame.mono (by rw [y7]; decide) (by rw [z7]; decide)⟩
  show own_Q8 Z p_1 h0 n0 _ T7.heap _
  rw [e7]
  exact ⟨r8, rfl, N7, rfl, (own_t8_0 p_1 v1 r3 v5 r8 hdv1 f4 hdv5 f9)⟩
theorem own_d1_0 : decode method_2_code 0 = .ok (.iload_n 0, 1) := by decide +kernel
theorem own_d1_1 : decode method_2_code 1 = .ok (.bipush 64, 2) := by decide +kernel
theorem own_d1_3 : decode method_2_code 3 = .ok (.if_icmp .ge 5, 3) := by decide +kernel
theorem own_d1_6 : decode method_2_code 6 = .ok (.iconst 1, 1) := by decide +kernel
theorem own_d1_7 : decode method_2_code 7 = .ok (.ireturn, 1) := by decide +kernel
theorem own_d1_8 : decode method_2_code 8 = .ok (.iload_n 0, 1) := by decide +kernel
theorem own_d1_9 : decode method_2_code 9 = .ok (.sipush 8192, 3) := by decide +kernel
theorem own_d1_12 : decode method_2_code 12 = .ok (.if_icmp .ge 5, 3) := by decide +kernel
theorem own_d1_15 : decode method_2_code 15 = .ok (.iconst 2, 1) := by decide +kernel
theorem own_d1_16 : decode method_2_code 16 = .ok (.ireturn, 1) := by decide +kernel
theorem own_d1_17 : decode method_2_code 17 = .ok (.iconst 3, 1) := by decide +kernel
theorem own_d1_18 : decode method_2_code 18 = .ok (.ireturn, 1) := by decide +kernel
theorem own_ef_own_rm1 (m : MethodId) (x0 : Int32) : entryFrame m #[(.int x0)] 1 = mkF m 0 #[.val (.int x0)] [] := by first | (simp [entryFrame, mkF, argsToLocals, Value.category]; done) | rfl
def own_rm1_ret (p_1 : Int32) : Int32 := if p_1 < (64 : Int32) then (1 : Int32) else if p_1 < (8192 : Int32) then (2 : Int32) else (3 : Int32)
def own_Q1 (Z : State) (p_1 : Int32) (h0 : Heap) (n0 : Nat) (v : Option Value) (h : Heap) (L : List Loc) : Prop := ∃ (r_ : Int32), v = some (.int r_) ∧ Fr n0 L ∧ r_ = (own_rm1_ret p_1) ∧ h = h0
set_option maxRecDepth 65536 in
set_option maxHeartbeats 40000000 in
theorem own_rm1 (l : Launch) (Z : State) (a0 : Array Value) (hw : ∀ d ∈ tables_1, d.before a0 Z = true) (ws : List Jvm.Cond) (p_1 : Int32) (h0 : Heap) (n0 : Nat) (Z0 : n0 ≤ h0.size) :
    MetFree l (⟨"com/example/fencepost/fencepost/connector/RecordLimitLargestValuePinLaw", "lenSize", "(I)I"⟩ : MethodName) (head1 (Jvm.Cond.code (⟨"com/example/fencepost/fencepost/connector/RecordLimitLargestValuePinLaw", "lenSize", "(I)I"⟩ : MethodName) method_2_code 1 (some .int) :: ws) ({ frames := 0, cells := 0, slots := 0, locals := 0 } : Room)) (fun a U => a = #[(.int p_1)] ∧ Z.Warmed39 U.vm ∧ U.heap = h0) (fun _ _ _ _ _ => True) (fun _ U o U' => ∃ v L, o = .returned v ∧ own_Q1 Z p_1 h0 n0 v U'.heap L ∧ FrameEnd U o U' L ({ frames := 0, cells := 0, slots := 0, locals := 0 } : Room).cells ({ frames := 0, cells := 0, slots := 0, locals := 0 } : Room).slots) := by
  refine MetFree.of_bodySF (plainFor_of_name own_pn2) hisR ?_
  intro p e s m args below meth c s₁ Bd hml0 hP hK
  obtain ⟨rfl, hZ, hh⟩ := hP
  have hx := Bd.exec
  have hby := Bd.bytes
  have hml : c.maxLocals = 1 := hml0
  have hown : s.vm.findClass "com/example/fencepost/fencepost/connector/RecordLimitLargestValuePinLaw" = some m.cls := findClass_of_methodNamed Bd.named
  have hnm := (name_of_methodNamed Bd.named Bd.method).1
  have X0 : Stand p l e ({ frames := 0, cells := 0, slots := 0, locals := 0 } : Room) s m #[(.int p_1)] below meth c s₁ [] 0 0 := Stand.of_body Bd
  have e0 : s₁.heap = h0 := by rw [← hh, Bd.state]; rfl
  have N0 := Fr.nil n0
  have z0 : n0 ≤ h0.size := Z0
  show own_Go p.tables e below (fun t o => t.status = .running ∧ Ended t below o ∧ ∃ v L, o = .returned v ∧ own_Q1 Z p_1 h0 n0 v t.heap L ∧ FrameEnd s o t L ({ frames := 0, cells := 0, slots := 0, locals := 0 } : Room).cells ({ frames := 0, cells := 0, slots := 0, locals := 0 } : Room).slots) s₁ (entryFrame m #[(.int p_1)] 1)
  rw [own_ef_own_rm1 m p_1]
  show own_Go _ _ _ _ s₁ (mkF m 0 #[.val (.int p_1)] [])
  refine own_go (fun _ k => XS.iloadN X0.here hx rfl (hb hby own_d1_0) rfl k) ?_
  show own_Go _ _ _ _ s₁ (mkF m 1 #[.val (.int p_1)] [(.int p_1)])
  refine own_go (fun _ k => XS.bipush X0.here hx rfl (hb hby own_d1_1) k) ?_
  show own_Go _ _ _ _ s₁ (mkF m 3 #[.val (.int p_1)] [(.int (64 : Int32)), (.int p_1)])
  by_cases hc1 : p_1 < (64 : Int32)
  · refine own_go (fun _ k => XS.icmpNo X0.here hx rfl (hb hby own_d1_3) rfl (Jvm.Free.XT.ii_ge_f hc1) k) ?_
    show own_Go _ _ _ _ s₁ (mkF m 6 #[.val (.int p_1)] [])
    refine own_go (fun _ k => XS.iconst X0.here hx rfl (hb hby own_d1_6) k) ?_
    show own_Go _ _ _ _ s₁ (mkF m 7 #[.val (.int p_1)] [(.int (1 : Int32))])
    obtain ⟨fs, hr, hrun, hended, hW, hsame⟩ := X0.leave (v := some (.int (1 : Int32))) (fun h => by rw [Bd.returns] at h; cases h)
    refine ⟨_, _, retOut X0 hx Bd.returns rfl (Or.inl ⟨rfl, Or.inl rfl, _, rfl⟩) (hb hby own_d1_7) hr, hrun, hended, _, _, rfl, ?_, ⟨_, rfl⟩, hW, hsame.mono (by decide) (by decide)⟩
    show own_Q1 Z p_1 h0 n0 _ s₁.heap _
    rw [e0]
    exact ⟨_, rfl, N0, (by first | rfl | simp only [own_rm1_ret, if_pos hc1]), rfl⟩
  · refine own_go (fun _ k => XS.icmpYes X0.here hx rfl (pc0 := 3) (pc' := 8) rfl (hb hby own_d1_3) rfl (Jvm.Free.XT.ii_ge_t hc1) (by decide) (by decide) k) ?_
    show own_Go _ _ _ _ s₁ (mkF m 8 #[.val (.int p_1)] [])
    refine own_go (fun _ k => XS.iloadN X0.here hx rfl (hb hby own_d1_8) rfl k) ?_
    show own_Go _ _ _ _ s₁ (mkF m 9 #[.val (.int p_1)] [(.int p_1)])
    refine own_go (fun _ k => XS.sipush X0.here hx rfl (hb hby own_d1_9) k) ?_
    show own_Go _ _ _ _ s₁ (mkF m 12 #[.val (.int p_1)] [(.int (8192 : Int32)), (.int p_1)])
    by_cases hc3 : p_1 < (8192 : Int32)
    · refine own_go (fun _ k => XS.icmpNo X0.here hx rfl (hb hby own_d1_12) rfl (Jvm.Free.XT.ii_ge_f hc3) k) ?_
      show own_Go _ _ _ _ s₁ (mkF m 15 #[.val (.int p_1)] [])
      refine own_go (fun _ k => XS.iconst X0.here hx rfl (hb hby own_d1_15) k) ?_
      show own_Go _ _ _ _ s₁ (mkF m 16 #[.val (.int p_1)] [(.int (2 : Int32))])
      obtain ⟨fs, hr, hrun, hended, hW, hsame⟩ := X0.leave (v := some (.int (2 : Int32))) (fun h => by rw [Bd.returns] at h; cases h)
      refine ⟨_, _, retOut X0 hx Bd.returns rfl (Or.inl ⟨rfl, Or.inl rfl, _, rfl⟩) (hb hby own_d1_16) hr, hrun, hended, _, _, rfl, ?_, ⟨_, rfl⟩, hW, hsame.mono (by decide) (by decide)⟩
      show own_Q1 Z p_1 h0 n0 _ s₁.heap _
      rw [e0]
      exact ⟨_, rfl, N0, (by first | rfl | simp only [own_rm1_ret, if_neg hc1, if_pos hc3]), rfl⟩
    · refine own_go (fun _ k => XS.icmpYes X0.here hx rfl (pc0 := 12) (pc' := 17) rfl (hb hby own_d1_12) rfl (Jvm.Free.XT.ii_ge_t hc3) (by decide) (by decide) k) ?_
      show own_Go _ _ _ _ s₁ (mkF m 17 #[.val (.int p_1)] [])
      refine own_go (fun _ k => XS.iconst X0.here hx rfl (hb hby own_d1_17) k) ?_
      show own_Go _ _ _ _ s₁ (mkF m 18 #[.val (.int p_1)] [(.int (3 : Int32))])
      obtain ⟨fs, hr, hrun, hended, hW, hsame⟩ := X0.leave (v := some (.int (3 : Int32))) (fun h => by rw [Bd.returns] at h; cases h)
      refine ⟨_, _, retOut X0 hx Bd.returns rfl (Or.inl ⟨rfl, Or.inl rfl, _, rfl⟩) (hb hby own_d1_18) hr, hrun, hended, _, _, rfl, ?_, ⟨_, rfl⟩, hW, hsame.mono (by decide) (by decide)⟩
      show own_Q1 Z p_1 h0 n0 _ s₁.heap _
      rw [e0]
      exact ⟨_, rfl, N0, (by first | rfl | simp only [own_rm1_ret, if_neg hc1, if_neg hc3]), rfl⟩
theorem own_ls3 (z : Int32) : 1 ≤ (own_rm1_ret z).toInt ∧ (own_rm1_ret z).toInt ≤ 3 := by
  unfold own_rm1_ret
  split
  · decide
  · split <;> decide
theorem own_d7_0 : decode prog_16_method_8_code 0 = .ok (.aload_n 0, 1) := by decide +kernel
theorem own_d7_1 : decode prog_16_method_8_code 1 = .ok (.ifnonnull 10, 3) := by decide +kernel
theorem own_d7_4 : decode prog_16_method_8_code 4 = .ok (.iconst (-1), 1) := by decide +kernel
theorem own_d7_5 : decode prog_16_method_8_code 5 = .ok (.invokestatic 29, 3) := by decide +kernel
theorem own_d7_8 : decode prog_16_method_8_code 8 = .ok (.goto 11, 3) := by decide +kernel
theorem own_d7_19 : decode prog_16_method_8_code 19 = .ok (.ireturn, 1) := by decide +kernel
theorem own_ef_own_rm7n (m : MethodId)  : entryFrame m #[.null] 1 = mkF m 0 #[.val .null] [] := by first | (simp [entryFrame, mkF, argsToLocals, Value.category]; done) | rfl
def own_Q7n (Z : State)  (h0 : Heap) (n0 : Nat) (v : Option Value) (h : Heap) (L : List Loc) : Prop := v = some (.int (1 : Int32)) ∧ Fr n0 L ∧ h = h0
set_option maxRecDepth 65536 in
set_option maxHeartbeats 40000000 in
theorem own_rm7n (l : Launch) (Z : State) (a0 : Array Value) (hw : ∀ d ∈ tables_1, d.before a0 Z = true) (ws : List Jvm.Cond)  (h0 : Heap) (n0 : Nat) (Z0 : n0 ≤ h0.size) :
    MetFree l (⟨"com/example/fencepost/fencepost/connector/RecordLimit", "fieldSize", "([B)I"⟩ : MethodName) (head1 (Jvm.Cond.code (⟨"com/example/fencepost/fencepost/connector/RecordLimit", "fieldSize", "([B)I"⟩ : MethodName) prog_16_method_8_code 1 (some .int) :: ws) ({ frames := 2, cells := 0, slots := 0, locals := 28 } : Room)) (fun a U => a = #[.null] ∧ Z.Warmed39 U.vm ∧ U.heap = h0) (fun _ _ _ _ _ => True) (fun _ U o U' => ∃ v L, o = .returned v ∧ own_Q7n Z  h0 n0 v U'.heap L ∧ FrameEnd U o U' L ({ frames := 2, cells := 0, slots := 0, locals := 28 } : Room).cells ({ frames := 2, cells := 0, slots := 0, locals := 28 } : Room).slots) := by
  refine MetFree.of_bodySF (plainFor_of_name own_pn1) hisR ?_
  intro p e s m args below meth c s₁ Bd hml0 hP hK
  obtain ⟨rfl, hZ, hh⟩ := hP
  have hx := Bd.exec
  have hby := Bd.bytes
  have hml : c.maxLocals = 1 := hml0
  have hown : s.vm.findClass "com/example/fencepost/fencepost/connector/RecordLimit" = some m.cls := findClass_of_methodNamed Bd.named
  have hnm := (name_of_methodNamed Bd.named Bd.method).1
  have X0 : Stand p l e ({ frames := 2, cells := 0, slots := 0, locals := 28 } : Room) s m #[.null] below meth c s₁ [] 0 0 := Stand.of_body Bd
  have e0 : s₁.heap = h0 := by rw [← hh, Bd.state]; rfl
  have N0 := Fr.nil n0
  have z0 : n0 ≤ h0.size := Z0
  show own_Go p.tables e below (fun t o => t.status = .running ∧ Ended t below o ∧ ∃ v L, o = .returned v ∧ own_Q7n Z  h0 n0 v t.heap L ∧ FrameEnd s o t L ({ frames := 2, cells := 0, slots := 0, locals := 28 } : Room).cells ({ frames := 2, cells := 0, slots := 0, locals := 28 } : Room).slots) s₁ (entryFrame m #[.null] 1)
  rw [own_ef_own_rm7n m ]
  show own_Go _ _ _ _ s₁ (mkF m 0 #[.val .null] [])
  refine own_go (fun _ k => XS.aloadN X0.here hx rfl (hb hby own_d7_0) rfl rfl k) ?_
  show own_Go _ _ _ _ s₁ (mkF m 1 #[.val .null] [.null])
  refine own_go (fun _ k => XS.ifnonnullNo X0.here hx rfl (hb hby own_d7_1) rfl k) ?_
  show own_Go _ _ _ _ s₁ (mkF m 4 #[.val .null] [])
  refine own_go (fun _ k => XS.iconst X0.here hx rfl (hb hby own_d7_4) k) ?_
  show own_Go _ _ _ _ s₁ (mkF m 5 #[.val .null] [(.int (-1 : Int32))])
  obtain ⟨_, _, ⟨T1, L1, k1, n1⟩, -, X1, ⟨Lc1, hQ1, l1, y1, z1⟩, st1⟩ := Jvm.LawKit.callS X0 hx (y := (⟨"com/example/fencepost/fencepost/connector/RecordLimit", "varintSize", "(I)I"⟩ : MethodName)) hown (mvT hZ (hw _ (List.mem_of_getElem? (i := 45) rfl))) (mvT hZ (hw _ (List.mem_of_getElem? (i := 46) rfl))) (mvT hZ (hw _ (List.mem_of_getElem? (i := 8) rfl))) (mvT hZ (hw _ (List.mem_of_getElem? (i := 47) rfl))) (by decide) (backOf (W := 0) (own_rm8_m l Z a0 hw []   h0 n0 (by omega) ) hZ (hw _ (List.mem_of_getElem? (i := 47) rfl)) (hw _ (List.mem_of_getElem? (i := 8) rfl)) (by decide) (by decide)) (g := (mkF m 5 #[.val .null] [(.int (-1 : Int32))])) rfl (by rw [hml]; rfl) (argsL := [(.int (-1 : Int32))]) (rest := []) (lenOf own_pd0 rfl) rfl (by show 2 * 0 + _ ≤ _; exact Nat.le_of_eq rfl) (hb hby own_d7_5) (fun _ _ => ⟨rfl, e0, (by decide : 0 + 0 ≤ _), (by decide : 0 + 0 ≤ _)⟩)
  dsimp only [Pt.U, Pt.locs, Pt.cells, Pt.slots] at X1 l1 y1 z1 st1 hQ1
  have y1 : k1 = 0 := y1
  have z1 : n1 = 0 := z1
  obtain ⟨rfl, N1q, e1⟩ := hQ1
  have N1 : Fr n0 L1 := by rw [l1]; exact Fr.app N0 N1q
  refine own_go (fun _ k => st1 _ k) ?_
  show own_Go _ _ _ _ T1 (mkF m 8 #[.val .null] [(.int (1 : Int32))])
  refine own_go (fun _ k => XS.goto X1.here hx rfl (pc0 := 8) (pc' := 19) rfl (hb hby own_d7_8) (by decide) (by decide) k) ?_
  show own_Go _ _ _ _ T1 (mkF m 19 #[.val .null] [(.int (1 : Int32))])
  obtain ⟨fs, hr, hrun, hended, hW, hsame⟩ := X1.leave (v := some (.int (1 : Int32))) (fun h => by rw [Bd.returns] at h; cases h)
  refine ⟨_, _, retOut X1 hx Bd.returns rfl (Or.inl ⟨rfl, Or.inl rfl, _, rfl⟩) (hb hby own_d7_19) hr, hrun, hended, _, _, rfl, ?_, ⟨_, rfl⟩, hW, hsame.mono (by rw [y1]; decide) (by rw [z1]; decide)⟩
  show own_Q7n Z  h0 n0 _ T1.heap _
  rw [e1]
  exact ⟨rfl, N1, rfl⟩
theorem own_d7_11 : decode prog_16_method_8_code 11 = .ok (.aload_n 0, 1) := by decide +kernel
theorem own_d7_12 : decode prog_16_method_8_code 12 = .ok (.arraylength, 1) := by decide +kernel
theorem own_d7_13 : decode prog_16_method_8_code 13 = .ok (.invokestatic 29, 3) := by decide +kernel
theorem own_d7_16 : decode prog_16_method_8_code 16 = .ok (.aload_n 0, 1) := by decide +kernel
theorem own_d7_17 : decode prog_16_method_8_code 17 = .ok (.arraylength, 1) := by decide +kernel
theorem own_d7_18 : decode prog_16_method_8_code 18 = .ok (.iadd, 1) := by decide +kernel
theorem own_ef_own_rm7a (m : MethodId) (x0 : Addr) : entryFrame m #[(.ref x0)] 1 = mkF m 0 #[.val (.ref x0)] [] := by first | (simp [entryFrame, mkF, argsToLocals, Value.category]; done) | rfl
set_option maxRecDepth 65536 in
set_option maxHeartbeats 4000000 in
theorem own_t7a_0 (z_a_1 : Int32) (r4 : Int32) (hz : 0 ≤ z_a_1.toInt ∧ z_a_1.toInt ≤ 16383) (f5 : z_a_1.toInt < 0 ∨ (z_a_1.toInt < 64 ∧ r4.toInt = 1) ∨ (64 ≤ z_a_1.toInt ∧ z_a_1.toInt < 8192 ∧ r4.toInt = 2) ∨ (8192 ≤ z_a_1.toInt ∧ z_a_1.toInt < 1048576 ∧ r4.toInt = 3) ∨ (1048576 ≤ z_a_1.toInt ∧ z_a_1.toInt < 134217728 ∧ r4.toInt = 4) ∨ (134217728 ≤ z_a_1.toInt ∧ r4.toInt = 5)) : (r4 + z_a_1) = ((own_rm1_ret z_a_1) + z_a_1) := by
  have e : r4 = own_rm1_ret z_a_1 := by
    apply Int32.toInt_inj.mp
    unfold own_rm1_ret
    have e1 : (64 : Int32).toInt = 64 := by decide
    have e2 : (8192 : Int32).toInt = 8192 := by decide
    have e3 : (1 : Int32).toInt = 1 := by decide
    have e4 : (2 : Int32).toInt = 2 := by decide
    have e5 : (3 : Int32).toInt = 3 := by decide
    by_cases c1 : z_a_1 < (64 : Int32)
    · rw [if_pos c1, e3]; rw [Int32.lt_iff_toInt_lt, e1] at c1; omega
    · rw [if_neg c1]
      rw [Int32.lt_iff_toInt_lt, e1] at c1
      by_cases c2 : z_a_1 < (8192 : Int32)
      · rw [if_pos c2, e4]; rw [Int32.lt_iff_toInt_lt, e2] at c2; omega
      · rw [if_neg c2, e5]; rw [Int32.lt_iff_toInt_lt, e2] at c2; omega
  rw [e]
def own_Q7a (Z : State) (a_1 : Addr) (z_a_1 : Int32) (g_a_1 : Nat → Value) (h0 : Heap) (n0 : Nat) (v : Option Value) (h : Heap) (L : List Loc) : Prop := ∃ (r_ : Int32), v = some (.int r_) ∧ Fr n0 L ∧ r_ = ((own_rm1_ret z_a_1) + z_a_1) ∧ h = h0
set_option maxRecDepth 65536 in
set_option maxHeartbeats 40000000 in
theorem own_rm7a (l : Launch) (Z : State) (a0 : Array Value) (hw : ∀ d ∈ tables_1, d.before a0 Z = true) (ws : List Jvm.Cond) (a_1 : Addr) (z_a_1 : Int32) (g_a_1 : Nat → Value) (h0 : Heap) (n0 : Nat) (Z0 : n0 ≤ h0.size) (pr_A_a_1 : own_AV Z h0 a_1 .byte z_a_1 g_a_1) (hz : 0 ≤ z_a_1.toInt ∧ z_a_1.toInt ≤ 16383) :
    MetFree l (⟨"com/example/fencepost/fencepost/connector/RecordLimit", "fieldSize", "([B)I"⟩ : MethodName) (head1 (Jvm.Cond.code (⟨"com/example/fencepost/fencepost/connector/RecordLimit", "fieldSize", "([B)I"⟩ : MethodName) prog_16_method_8_code 1 (some .int) :: ws) ({ frames := 2, cells := 0, slots := 0, locals := 28 } : Room)) (fun a U => a = #[(.ref a_1)] ∧ Z.Warmed39 U.vm ∧ U.heap = h0) (fun _ _ _ _ _ => True) (fun _ U o U' => ∃ v L, o = .returned v ∧ own_Q7a Z a_1 z_a_1 g_a_1 h0 n0 v U'.heap L ∧ FrameEnd U o U' L ({ frames := 2, cells := 0, slots := 0, locals := 28 } : Room).cells ({ frames := 2, cells := 0, slots := 0, locals := 28 } : Room).slots) := by
  refine MetFree.of_bodySF (plainFor_of_name own_pn1) hisR ?_
  intro p e s m args below meth c s₁ Bd hml0 hP hK
  obtain ⟨rfl, hZ, hh⟩ := hP
  have hx := Bd.exec
  have hby := Bd.bytes
  have hml : c.maxLocals = 1 := hml0
  have hown : s.vm.findClass "com/example/fencepost/fencepost/connector/RecordLimit" = some m.cls := findClass_of_methodNamed Bd.named
  have hnm := (name_of_methodNamed Bd.named Bd.method).1
  have X0 : Stand p l e ({ frames := 2, cells := 0, slots := 0, locals := 28 } : Room) s m #[(.ref a_1)] below meth c s₁ [] 0 0 := Stand.of_body Bd
  have e0 : s₁.heap = h0 := by rw [← hh, Bd.state]; rfl
  have N0 := Fr.nil n0
  have z0 : n0 ≤ h0.size := Z0
  have z1 := own_lt pr_A_a_1.lt
  show own_Go p.tables e below (fun t o => t.status = .running ∧ Ended t below o ∧ ∃ v L, o = .returned v ∧ own_Q7a Z a_1 z_a_1 g_a_1 h0 n0 v t.heap L ∧ FrameEnd s o t L ({ frames := 2, cells := 0, slots := 0, locals := 28 } : Room).cells ({ frames := 2, cells := 0, slots := 0, locals := 28 } : Room).slots) s₁ (entryFrame m #[(.ref a_1)] 1)
  rw [own_ef_own_rm7a m a_1]
  show own_Go _ _ _ _ s₁ (mkF m 0 #[.val (.ref a_1)] [])
  refine own_go (fun _ k => XS.aloadN X0.here hx rfl (hb hby own_d7_0) rfl rfl k) ?_
  show own_Go _ _ _ _ s₁ (mkF m 1 #[.val (.ref a_1)] [(.ref a_1)])
  refine own_go (fun _ k => XS.ifnonnullYes X0.here hx rfl (pc0 := 1) (pc' := 11) rfl (hb hby own_d7_1) rfl (by decide) (by decide) k) ?_
  show own_Go _ _ _ _ s₁ (mkF m 11 #[.val (.ref a_1)] [])
  refine own_go (fun _ k => XS.aloadN X0.here hx rfl (hb hby own_d7_11) rfl rfl k) ?_
  show own_Go _ _ _ _ s₁ (mkF m 12 #[.val (.ref a_1)] [(.ref a_1)])
  obtain ⟨q2, c2, R2, s2, t2⟩ := id pr_A_a_1
  refine own_go (fun _ k => X0.arraylength hx (by rw [e0]; exact R2.1) (State.isArrayOf_alike hZ.alike R2.2.1) (g := (mkF m 12 #[.val (.ref a_1)] [(.ref a_1)])) rfl rfl (hb hby own_d7_12) _ k) ?_
  rw [len_of s2 q2]
  show own_Go _ _ _ _ s₁ (mkF m 13 #[.val (.ref a_1)] [(.int z_a_1)])
  obtain ⟨_, _, ⟨T3, L3, k3, n3⟩, -, X3, ⟨Lc3, hQ3, l3, y3, z3⟩, st3⟩ := Jvm.LawKit.callS X0 hx (y := (⟨"com/example/fencepost/fencepost/connector/RecordLimit", "varintSize", "(I)I"⟩ : MethodName)) hown (mvT hZ (hw _ (List.mem_of_getElem? (i := 45) rfl))) (mvT hZ (hw _ (List.mem_of_getElem? (i := 46) rfl))) (mvT hZ (hw _ (List.mem_of_getElem? (i := 8) rfl))) (mvT hZ (hw _ (List.mem_of_getElem? (i := 47) rfl))) (by decide) (backOf (W := 0) (own_rm8 l Z a0 hw [] z_a_1  h0 n0 (by omega) ) hZ (hw _ (List.mem_of_getElem? (i := 47) rfl)) (hw _ (List.mem_of_getElem? (i := 8) rfl)) (by decide) (by decide)) (g := (mkF m 13 #[.val (.ref a_1)] [(.int z_a_1)])) rfl (by rw [hml]; rfl) (argsL := [(.int z_a_1)]) (rest := []) (lenOf own_pd0 rfl) rfl (by show 2 * 0 + _ ≤ _; exact Nat.le_of_eq rfl) (hb hby own_d7_13) (fun _ _ => ⟨rfl, e0, (by decide : 0 + 0 ≤ _), (by decide : 0 + 0 ≤ _)⟩)
  dsimp only [Pt.U, Pt.locs, Pt.cells, Pt.slots] at X3 l3 y3 z3 st3 hQ3
  have y3 : k3 = 0 := y3
  have z3 : n3 = 0 := z3
  obtain ⟨r4, rfl, N3q, e3, f5⟩ := hQ3
  have N3 : Fr n0 L3 := by rw [l3]; exact Fr.app N0 N3q
  refine own_go (fun _ k => st3 _ k) ?_
  show own_Go _ _ _ _ T3 (mkF m 16 #[.val (.ref a_1)] [(.int r4)])
  refine own_go (fun _ k => XS.aloadN X3.here hx rfl (hb hby own_d7_16) rfl rfl k) ?_
  show own_Go _ _ _ _ T3 (mkF m 17 #[.val (.ref a_1)] [(.ref a_1), (.int r4)])
  obtain ⟨q6, c6, R6, s6, t6⟩ := id pr_A_a_1
  refine own_go (fun _ k => X3.arraylength hx (by rw [e3]; exact R6.1) (State.isArrayOf_alike hZ.alike R6.2.1) (g := (mkF m 17 #[.val (.ref a_1)] [(.ref a_1), (.int r4)])) rfl rfl (hb hby own_d7_17) _ k) ?_
  rw [len_of s6 q6]
  show own_Go _ _ _ _ T3 (mkF m 18 #[.val (.ref a_1)] [(.int z_a_1), (.int r4)])
  refine own_go (fun _ k => XS.iadd X3.here hx rfl (hb hby own_d7_18) rfl k) ?_
  show own_Go _ _ _ _ T3 (mkF m 19 #[.val (.ref a_1)] [(.int (r4 + z_a_1))])
  obtain ⟨fs, hr, hrun, hended, hW, hsame⟩ := X3.leave (v := some (.int (r4 + z_a_1))) (fun h => by rw [Bd.returns] at h; cases h)
  refine ⟨_, _, retOut X3 hx Bd.returns rfl (Or.inl ⟨rfl, Or.inl rfl, _, rfl⟩) (hb hby own_d7_19) hr, hrun, hended, _, _, rfl, ?_, ⟨_, rfl⟩, hW, hsame.mono (by rw [y3]; decide) (by rw [z3]; decide)⟩
  show own_Q7a Z a_1 z_a_1 g_a_1 h0 n0 _ T3.heap _
  rw [e3]
  exact ⟨_, rfl, N3, (own_t7a_0 z_a_1 r4 hz f5), rfl⟩
theorem own_d6_0 : decode prog_16_method_7_code 0 = .ok (.aload_n 0, 1) := by decide +kernel
theorem own_d6_1 : decode prog_16_method_7_code 1 = .ok (.getfield 7, 3) := by decide +kernel
theorem own_d6_4 : decode prog_16_method_7_code 4 = .ok (.bipush 82, 2) := by decide +kernel
theorem own_d6_6 : decode prog_16_method_7_code 6 = .ok (.isub, 1) := by decide +kernel
theorem own_d6_7 : decode prog_16_method_7_code 7 = .ok (.aload_n 1, 1) := by decide +kernel
theorem own_d6_8 : decode prog_16_method_7_code 8 = .ok (.invokestatic 33, 3) := by decide +kernel
theorem own_d6_11 : decode prog_16_method_7_code 11 = .ok (.isub, 1) := by decide +kernel
theorem own_d6_12 : decode prog_16_method_7_code 12 = .ok (.iconst 0, 1) := by decide +kernel
theorem own_d6_13 : decode prog_16_method_7_code 13 = .ok (.invokestatic 29, 3) := by decide +kernel
theorem own_d6_16 : decode prog_16_method_7_code 16 = .ok (.isub, 1) := by decide +kernel
theorem own_d6_17 : decode prog_16_method_7_code 17 = .ok (.ireturn, 1) := by decide +kernel
theorem own_ef_own_rm6n (m : MethodId) (x0 : Addr) : entryFrame m #[(.ref x0), .null] 2 = mkF m 0 #[.val (.ref x0), .val .null] [] := by first | (simp [entryFrame, mkF, argsToLocals, Value.category]; done) | rfl
def own_Q6n (Z : State) (a_1 : Addr) (w_largestRecord_a_1 : Int32) (h0 : Heap) (n0 : Nat) (v : Option Value) (h : Heap) (L : List Loc) : Prop := ∃ (r_ : Int32), v = some (.int r_) ∧ Fr n0 L ∧ r_ = (((w_largestRecord_a_1 - (82 : Int32)) - (1 : Int32)) - (1 : Int32)) ∧ h = h0
set_option maxRecDepth 65536 in
set_option maxHeartbeats 40000000 in
theorem own_rm6n (l : Launch) (Z : State) (a0 : Array Value) (hw : ∀ d ∈ tables_1, d.before a0 Z = true) (ws : List Jvm.Cond) (a_1 : Addr) (w_largestRecord_a_1 : Int32) (h0 : Heap) (n0 : Nat) (Z0 : n0 ≤ h0.size) (pr_F_a_1_largestRecord : Fld Z h0 a_1 "com/example/fencepost/fencepost/connector/RecordLimit" "largestRecord" "I" (.int w_largestRecord_a_1)) :
    MetFree l (⟨"com/example/fencepost/fencepost/connector/RecordLimit", "room", "([B)I"⟩ : MethodName) (head1 (Jvm.Cond.code (⟨"com/example/fencepost/fencepost/connector/RecordLimit", "room", "([B)I"⟩ : MethodName) prog_16_method_7_code 2 (some .int) :: ws) ({ frames := 3, cells := 0, slots := 0, locals := 41 } : Room)) (fun a U => a = #[(.ref a_1), .null] ∧ Z.Warmed39 U.vm ∧ U.heap = h0) (fun _ _ _ _ _ => True) (fun _ U o U' => ∃ v L, o = .returned v ∧ own_Q6n Z a_1 w_largestRecord_a_1 h0 n0 v U'.heap L ∧ FrameEnd U o U' L ({ frames := 3, cells := 0, slots := 0, locals := 41 } : Room).cells ({ frames := 3, cells := 0, slots := 0, locals := 41 } : Room).slots) := by
  refine MetFree.of_bodySF (plainFor_of_name own_pn1) hisR ?_
  intro p e s m args below meth c s₁ Bd hml0 hP hK
  obtain ⟨rfl, hZ, hh⟩ := hP
  have hx := Bd.exec
  have hby := Bd.bytes
  have hml : c.maxLocals = 2 := hml0
  have hown : s.vm.findClass "com/example/fencepost/fencepost/connector/RecordLimit" = some m.cls := findClass_of_methodNamed Bd.named
  have hnm := (name_of_methodNamed Bd.named Bd.method).1
  have X0 : Stand p l e ({ frames := 3, cells := 0, slots := 0, locals := 41 } : Room) s m #[(.ref a_1), .null] below meth c s₁ [] 0 0 := Stand.of_body Bd
  have e0 : s₁.heap = h0 := by rw [← hh, Bd.state]; rfl
  have N0 := Fr.nil n0
  have z0 : n0 ≤ h0.size := Z0
  have z1 := own_lt pr_F_a_1_largestRecord.lt
  show own_Go p.tables e below (fun t o => t.status = .running ∧ Ended t below o ∧ ∃ v L, o = .returned v ∧ own_Q6n Z a_1 w_largestRecord_a_1 h0 n0 v t.heap L ∧ FrameEnd s o t L ({ frames := 3, cells := 0, slots := 0, locals := 41 } : Room).cells ({ frames := 3, cells := 0, slots := 0, locals := 41 } : Room).slots) s₁ (entryFrame m #[(.ref a_1), .null] 2)
  rw [own_ef_own_rm6n m a_1]
  show own_Go _ _ _ _ s₁ (mkF m 0 #[.val (.ref a_1), .val .null] [])
  refine own_go (fun _ k => XS.aloadN X0.here hx rfl (hb hby own_d6_0) rfl rfl k) ?_
  show own_Go _ _ _ _ s₁ (mkF m 1 #[.val (.ref a_1), .val .null] [(.ref a_1)])
  obtain ⟨T2, X2, e2, st2⟩ := getF X0 hx hZ hown (host := "") (Or.inl (hw _ (List.mem_of_getElem? (i := 27) rfl))) Via.refl e0 pr_F_a_1_largestRecord (g := (mkF m 1 #[.val (.ref a_1), .val .null] [(.ref a_1)])) rfl rfl (hb hby own_d6_1)
  refine own_go (fun _ k => st2 _ k) ?_
  show own_Go _ _ _ _ T2 (mkF m 4 #[.val (.ref a_1), .val .null] [(.int w_largestRecord_a_1)])
  refine own_go (fun _ k => XS.bipush X2.here hx rfl (hb hby own_d6_4) k) ?_
  show own_Go _ _ _ _ T2 (mkF m 6 #[.val (.ref a_1), .val .null] [(.int (82 : Int32)), (.int w_largestRecord_a_1)])
  refine own_go (fun _ k => XS.isub X2.here hx rfl (hb hby own_d6_6) rfl k) ?_
  show own_Go _ _ _ _ T2 (mkF m 7 #[.val (.ref a_1), .val .null] [(.int (w_largestRecord_a_1 - (82 : Int32)))])
  refine own_go (fun _ k => XS.aloadN X2.here hx rfl (hb hby own_d6_7) rfl rfl k) ?_
  show own_Go _ _ _ _ T2 (mkF m 8 #[.val (.ref a_1), .val .null] [.null, (.int (w_largestRecord_a_1 - (82 : Int32)))])
  obtain ⟨_, _, ⟨T3, L3, k3, n3⟩, -, X3, ⟨Lc3, hQ3, l3, y3, z3⟩, st3⟩ := Jvm.LawKit.callS X2 hx (y := (⟨"com/example/fencepost/fencepost/connector/RecordLimit", "fieldSize", "([B)I"⟩ : MethodName)) hown (mvT hZ (hw _ (List.mem_of_getElem? (i := 42) rfl))) (mvT hZ (hw _ (List.mem_of_getElem? (i := 43) rfl))) (mvT hZ (hw _ (List.mem_of_getElem? (i := 8) rfl))) (mvT hZ (hw _ (List.mem_of_getElem? (i := 44) rfl))) (by decide) (backOf (W := 1) (own_rm7n l Z a0 hw []   h0 n0 (by omega) ) hZ (hw _ (List.mem_of_getElem? (i := 44) rfl)) (hw _ (List.mem_of_getElem? (i := 8) rfl)) (by decide) (by decide)) (g := (mkF m 8 #[.val (.ref a_1), .val .null] [.null, (.int (w_largestRecord_a_1 - (82 : Int32)))])) rfl (by rw [hml]; rfl) (argsL := [.null]) (rest := [(.int (w_largestRecord_a_1 - (82 : Int32)))]) (lenOf own_pd2 rfl) rfl (by show 2 * 0 + _ ≤ _; exact Nat.le_of_eq rfl) (hb hby own_d6_8) (fun _ _ => ⟨rfl, e2, (by decide : 0 + 0 ≤ _), (by decide : 0 + 0 ≤ _)⟩)
  dsimp only [Pt.U, Pt.locs, Pt.cells, Pt.slots] at X3 l3 y3 z3 st3 hQ3
  have y3 : k3 = 0 := y3
  have z3 : n3 = 0 := z3
  obtain ⟨rfl, N3q, e3⟩ := hQ3
  have N3 : Fr n0 L3 := by rw [l3]; exact Fr.app N0 N3q
  refine own_go (fun _ k => st3 _ k) ?_
  show own_Go _ _ _ _ T3 (mkF m 11 #[.val (.ref a_1), .val .null] [(.int (1 : Int32)), (.int (w_largestRecord_a_1 - (82 : Int32)))])
  refine own_go (fun _ k => XS.isub X3.here hx rfl (hb hby own_d6_11) rfl k) ?_
  show own_Go _ _ _ _ T3 (mkF m 12 #[.val (.ref a_1), .val .null] [(.int ((w_largestRecord_a_1 - (82 : Int32)) - (1 : Int32)))])
  refine own_go (fun _ k => XS.iconst X3.here hx rfl (hb hby own_d6_12) k) ?_
  show own_Go _ _ _ _ T3 (mkF m 13 #[.val (.ref a_1), .val .null] [(.int (0 : Int32)), (.int ((w_largestRecord_a_1 - (82 : Int32)) - (1 : Int32)))])
  obtain ⟨_, _, ⟨T4, L4, k4, n4⟩, -, X4, ⟨Lc4, hQ4, l4, y4, z4⟩, st4⟩ := Jvm.LawKit.callS X3 hx (y := (⟨"com/example/fencepost/fencepost/connector/RecordLimit", "varintSize", "(I)I"⟩ : MethodName)) hown (mvT hZ (hw _ (List.mem_of_getElem? (i := 45) rfl))) (mvT hZ (hw _ (List.mem_of_getElem? (i := 46) rfl))) (mvT hZ (hw _ (List.mem_of_getElem? (i := 8) rfl))) (mvT hZ (hw _ (List.mem_of_getElem? (i := 47) rfl))) (by decide) (backOf (W := 1) (own_rm8_0 l Z a0 hw []   h0 n0 (by omega) ) hZ (hw _ (List.mem_of_getElem? (i := 47) rfl)) (hw _ (List.mem_of_getElem? (i := 8) rfl)) (by decide) (by decide)) (g := (mkF m 13 #[.val (.ref a_1), .val .null] [(.int (0 : Int32)), (.int ((w_largestRecord_a_1 - (82 : Int32)) - (1 : Int32)))])) rfl (by rw [hml]; rfl) (argsL := [(.int (0 : Int32))]) (rest := [(.int ((w_largestRecord_a_1 - (82 : Int32)) - (1 : Int32)))]) (lenOf own_pd0 rfl) rfl (by show 2 * 0 + _ ≤ _; exact Nat.le_of_eq rfl) (hb hby own_d6_13) (fun _ _ => ⟨rfl, e3, (by show k3 + _ ≤ _; rw [y3]; decide), (by show n3 + _ ≤ _; rw [z3]; decide)⟩)
  dsimp only [Pt.U, Pt.locs, Pt.cells, Pt.slots] at X4 l4 y4 z4 st4 hQ4
  have y4 : k4 = 0 := own_addeq y4 (congrArg (fun q => q) y3) rfl
  have z4 : n4 = 0 := own_addeq z4 (congrArg (fun q => q) z3) rfl
  obtain ⟨rfl, N4q, e4⟩ := hQ4
  have N4 : Fr n0 L4 := by rw [l4]; exact Fr.app N3 N4q
  refine own_go (fun _ k => st4 _ k) ?_
  show own_Go _ _ _ _ T4 (mkF m 16 #[.val (.ref a_1), .val .null] [(.int (1 : Int32)), (.int ((w_largestRecord_a_1 - (82 : Int32)) - (1 : Int32)))])
  refine own_go (fun _ k => XS.isub X4.here hx rfl (hb hby own_d6_16) rfl k) ?_
  show own_Go _ _ _ _ T4 (mkF m 17 #[.val (.ref a_1), .val .null] [(.int (((w_largestRecord_a_1 - (82 : Int32)) - (1 : Int32)) - (1 : Int32)))])
  obtain ⟨fs, hr, hrun, hended, hW, hsame⟩ := X4.leave (v := some (.int (((w_largestRecord_a_1 - (82 : Int32)) - (1 : Int32)) - (1 : Int32)))) (fun h => by rw [Bd.returns] at h; cases h)
  refine ⟨_, _, retOut X4 hx Bd.returns rfl (Or.inl ⟨rfl, Or.inl rfl, _, rfl⟩) (hb hby own_d6_17) hr, hrun, hended, _, _, rfl, ?_, ⟨_, rfl⟩, hW, hsame.mono (by rw [y4]; decide) (by rw [z4]; decide)⟩
  show own_Q6n Z a_1 w_largestRecord_a_1 h0 n0 _ T4.heap _
  rw [e4]
  exact ⟨_, rfl, N4, (by rfl), rfl⟩
theorem own_ef_own_rm6a (m : MethodId) (x0 : Addr) (x1 : Addr) : entryFrame m #[(.ref x0), (.ref x1)] 2 = mkF m 0 #[.val (.ref x0), .val (.ref x1)] [] := by first | (simp [entryFrame, mkF, argsToLocals, Value.category]; done) | rfl
def own_Q6a (Z : State) (a_1 : Addr) (a_2 : Addr) (z_a_2 : Int32) (g_a_2 : Nat → Value) (w_largestRecord_a_1 : Int32) (h0 : Heap) (n0 : Nat) (v : Option Value) (h : Heap) (L : List Loc) : Prop := ∃ (r_ : Int32), v = some (.int r_) ∧ Fr n0 L ∧ r_ = (((w_largestRecord_a_1 - (82 : Int32)) - ((own_rm1_ret z_a_2) + z_a_2)) - (1 : Int32)) ∧ h = h0
set_option maxRecDepth 65536 in
set_option maxHeartbeats 40000000 in
theorem own_rm6a (l : Launch) (Z : State) (a0 : Array Value) (hw : ∀ d ∈ tables_1, d.before a0 Z = true) (ws : List Jvm.Cond) (a_1 : Addr) (a_2 : Addr) (z_a_2 : Int32) (g_a_2 : Nat → Value) (w_largestRecord_a_1 : Int32) (h0 : Heap) (n0 : Nat) (Z0 : n0 ≤ h0.size) (pr_A_a_2 : own_AV Z h0 a_2 .byte z_a_2 g_a_2) (hz : 0 ≤ z_a_2.toInt ∧ z_a_2.toInt ≤ 16383) (pr_F_a_1_largestRecord : Fld Z h0 a_1 "com/example/fencepost/fencepost/connector/RecordLimit" "largestRecord" "I" (.int w_largestRecord_a_1)) :
    MetFree l (⟨"com/example/fencepost/fencepost/connector/RecordLimit", "room", "([B)I"⟩ : MethodName) (head1 (Jvm.Cond.code (⟨"com/example/fencepost/fencepost/connector/RecordLimit", "room", "([B)I"⟩ : MethodName) prog_16_method_7_code 2 (some .int) :: ws) ({ frames := 3, cells := 0, slots := 0, locals := 41 } : Room)) (fun a U => a = #[(.ref a_1), (.ref a_2)] ∧ Z.Warmed39 U.vm ∧ U.heap = h0) (fun _ _ _ _ _ => True) (fun _ U o U' => ∃ v L, o = .returned v ∧ own_Q6a Z a_1 a_2 z_a_2 g_a_2 w_largestRecord_a_1 h0 n0 v U'.heap L ∧ FrameEnd U o U' L ({ frames := 3, cells := 0, slots := 0, locals := 41 } : Room).cells ({ frames := 3, cells := 0, slots := 0, locals := 41 } : Room).slots) := by
  refine MetFree.of_bodySF (plainFor_of_name own_pn1) hisR ?_
  intro p e s m args below meth c s₁ Bd hml0 hP hK
  obtain ⟨rfl, hZ, hh⟩ := hP
  have hx := Bd.exec
  have hby := Bd.bytes
  have hml : c.maxLocals = 2 := hml0
  have hown : s.vm.findClass "com/example/fencepost/fencepost/connector/RecordLimit" = some m.cls := findClass_of_methodNamed Bd.named
  have hnm := (name_of_methodNamed Bd.named Bd.method).1
  have X0 : Stand p l e ({ frames := 3, cells := 0, slots := 0, locals := 41 } : Room) s m #[(.ref a_1), (.ref a_2)] below meth c s₁ [] 0 0 := Stand.of_body Bd
  have e0 : s₁.heap = h0 := by rw [← hh, Bd.state]; rfl
  have N0 := Fr.nil n0
  have z0 : n0 ≤ h0.size := Z0
  have z1 := own_lt pr_A_a_2.lt
  have z2 := own_lt pr_F_a_1_largestRecord.lt
  show own_Go p.tables e below (fun t o => t.status = .running ∧ Ended t below o ∧ ∃ v L, o = .returned v ∧ own_Q6a Z a_1 a_2 z_a_2 g_a_2 w_largestRecord_a_1 h0 n0 v t.heap L ∧ FrameEnd s o t L ({ frames := 3, cells := 0, slots := 0, locals := 41 } : Room).cells ({ frames := 3, cells := 0, slots := 0, locals := 41 } : Room).slots) s₁ (entryFrame m #[(.ref a_1), (.ref a_2)] 2)
  rw [own_ef_own_rm6a m a_1 a_2]
  show own_Go _ _ _ _ s₁ (mkF m 0 #[.val (.ref a_1), .val (.ref a_2)] [])
  refine own_go (fun _ k => XS.aloadN X0.here hx rfl (hb hby own_d6_0) rfl rfl k) ?_
  show own_Go _ _ _ _ s₁ (mkF m 1 #[.val (.ref a_1), .val (.ref a_2)] [(.ref a_1)])
  obtain ⟨T3, X3, e3, st3⟩ := getF X0 hx hZ hown (host := "") (Or.inl (hw _ (List.mem_of_getElem? (i := 27) rfl))) Via.refl e0 pr_F_a_1_largestRecord (g := (mkF m 1 #[.val (.ref a_1), .val (.ref a_2)] [(.ref a_1)])) rfl rfl (hb hby own_d6_1)
  refine own_go (fun _ k => st3 _ k) ?_
  show own_Go _ _ _ _ T3 (mkF m 4 #[.val (.ref a_1), .val (.ref a_2)] [(.int w_largestRecord_a_1)])
  refine own_go (fun _ k => XS.bipush X3.here hx rfl (hb hby own_d6_4) k) ?_
  show own_Go _ _ _ _ T3 (mkF m 6 #[.val (.ref a_1), .val (.ref a_2)] [(.int (82 : Int32)), (.int w_largestRecord_a_1)])
  refine own_go (fun _ k => XS.isub X3.here hx rfl (hb hby own_d6_6) rfl k) ?_
  show own_Go _ _ _ _ T3 (mkF m 7 #[.val (.ref a_1), .val (.ref a_2)] [(.int (w_largestRecord_a_1 - (82 : Int32)))])
  refine own_go (fun _ k => XS.aloadN X3.here hx rfl (hb hby own_d6_7) rfl rfl k) ?_
  show own_Go _ _ _ _ T3 (mkF m 8 #[.val (.ref a_1), .val (.ref a_2)] [(.ref a_2), (.int (w_largestRecord_a_1 - (82 : Int32)))])
  obtain ⟨_, _, ⟨T4, L4, k4, n4⟩, -, X4, ⟨Lc4, hQ4, l4, y4, z4⟩, st4⟩ := Jvm.LawKit.callS X3 hx (y := (⟨"com/example/fencepost/fencepost/connector/RecordLimit", "fieldSize", "([B)I"⟩ : MethodName)) hown (mvT hZ (hw _ (List.mem_of_getElem? (i := 42) rfl))) (mvT hZ (hw _ (List.mem_of_getElem? (i := 43) rfl))) (mvT hZ (hw _ (List.mem_of_getElem? (i := 8) rfl))) (mvT hZ (hw _ (List.mem_of_getElem? (i := 44) rfl))) (by decide) (backOf (W := 1) (own_rm7a l Z a0 hw [] a_2 z_a_2 g_a_2 h0 n0 (by omega) pr_A_a_2 hz) hZ (hw _ (List.mem_of_getElem? (i := 44) rfl)) (hw _ (List.mem_of_getElem? (i := 8) rfl)) (by decide) (by decide)) (g := (mkF m 8 #[.val (.ref a_1), .val (.ref a_2)] [(.ref a_2), (.int (w_largestRecord_a_1 - (82 : Int32)))])) rfl (by rw [hml]; rfl) (argsL := [(.ref a_2)]) (rest := [(.int (w_largestRecord_a_1 - (82 : Int32)))]) (lenOf own_pd2 rfl) rfl (by show 2 * 0 + _ ≤ _; exact Nat.le_of_eq rfl) (hb hby own_d6_8) (fun _ _ => ⟨rfl, e3, (by decide : 0 + 0 ≤ _), (by decide : 0 + 0 ≤ _)⟩)
  dsimp only [Pt.U, Pt.locs, Pt.cells, Pt.slots] at X4 l4 y4 z4 st4 hQ4
  have y4 : k4 = 0 := y4
  have z4 : n4 = 0 := z4
  obtain ⟨r5, rfl, N4q, hr_r5, e4⟩ := hQ4
  have N4 : Fr n0 L4 := by rw [l4]; exact Fr.app N0 N4q
  refine own_go (fun _ k => st4 _ k) ?_
  show own_Go _ _ _ _ T4 (mkF m 11 #[.val (.ref a_1), .val (.ref a_2)] [(.int r5), (.int (w_largestRecord_a_1 - (82 : Int32)))])
  refine own_go (fun _ k => XS.isub X4.here hx rfl (hb hby own_d6_11) rfl k) ?_
  show own_Go _ _ _ _ T4 (mkF m 12 #[.val (.ref a_1), .val (.ref a_2)] [(.int ((w_largestRecord_a_1 - (82 : Int32)) - r5))])
  refine own_go (fun _ k => XS.iconst X4.here hx rfl (hb hby own_d6_12) k) ?_
  show own_Go _ _ _ _ T4 (mkF m 13 #[.val (.ref a_1), .val (.ref a_2)] [(.int (0 : Int32)), (.int ((w_largestRecord_a_1 - (82 : Int32)) - r5))])
  obtain ⟨_, _, ⟨T6, L6, k6, n6⟩, -, X6, ⟨Lc6, hQ6, l6, y6, z6⟩, st6⟩ := Jvm.LawKit.callS X4 hx (y := (⟨"com/example/fencepost/fencepost/connector/RecordLimit", "varintSize", "(I)I"⟩ : MethodName)) hown (mvT hZ (hw _ (List.mem_of_getElem? (i := 45) rfl))) (mvT hZ (hw _ (List.mem_of_getElem? (i := 46) rfl))) (mvT hZ (hw _ (List.mem_of_getElem? (i := 8) rfl))) (mvT hZ (hw _ (List.mem_of_getElem? (i := 47) rfl))) (by decide) (backOf (W := 1) (own_rm8_0 l Z a0 hw []   h0 n0 (by omega) ) hZ (hw _ (List.mem_of_getElem? (i := 47) rfl)) (hw _ (List.mem_of_getElem? (i := 8) rfl)) (by decide) (by decide)) (g := (mkF m 13 #[.val (.ref a_1), .val (.ref a_2)] [(.int (0 : Int32)), (.int ((w_largestRecord_a_1 - (82 : Int32)) - r5))])) rfl (by rw [hml]; rfl) (argsL := [(.int (0 : Int32))]) (rest := [(.int ((w_largestRecord_a_1 - (82 : Int32)) - r5))]) (lenOf own_pd0 rfl) rfl (by show 2 * 0 + _ ≤ _; exact Nat.le_of_eq rfl) (hb hby own_d6_13) (fun _ _ => ⟨rfl, e4, (by show k4 + _ ≤ _; rw [y4]; decide), (by show n4 + _ ≤ _; rw [z4]; decide)⟩)
  dsimp only [Pt.U, Pt.locs, Pt.cells, Pt.slots] at X6 l6 y6 z6 st6 hQ6
  have y6 : k6 = 0 := own_addeq y6 (congrArg (fun q => q) y4) rfl
  have z6 : n6 = 0 := own_addeq z6 (congrArg (fun q => q) z4) rfl
  obtain ⟨rfl, N6q, e6⟩ := hQ6
  have N6 : Fr n0 L6 := by rw [l6]; exact Fr.app N4 N6q
  refine own_go (fun _ k => st6 _ k) ?_
  show own_Go _ _ _ _ T6 (mkF m 16 #[.val (.ref a_1), .val (.ref a_2)] [(.int (1 : Int32)), (.int ((w_largestRecord_a_1 - (82 : Int32)) - r5))])
  refine own_go (fun _ k => XS.isub X6.here hx rfl (hb hby own_d6_16) rfl k) ?_
  show own_Go _ _ _ _ T6 (mkF m 17 #[.val (.ref a_1), .val (.ref a_2)] [(.int (((w_largestRecord_a_1 - (82 : Int32)) - r5) - (1 : Int32)))])
  obtain ⟨fs, hr, hrun, hended, hW, hsame⟩ := X6.leave (v := some (.int (((w_largestRecord_a_1 - (82 : Int32)) - r5) - (1 : Int32)))) (fun h => by rw [Bd.returns] at h; cases h)
  refine ⟨_, _, retOut X6 hx Bd.returns rfl (Or.inl ⟨rfl, Or.inl rfl, _, rfl⟩) (hb hby own_d6_17) hr, hrun, hended, _, _, rfl, ?_, ⟨_, rfl⟩, hW, hsame.mono (by rw [y6]; decide) (by rw [z6]; decide)⟩
  show own_Q6a Z a_1 a_2 z_a_2 g_a_2 w_largestRecord_a_1 h0 n0 _ T6.heap _
  rw [e6]
  exact ⟨_, rfl, N6, (by subst hr_r5; rfl), rfl⟩
theorem own_d11_0 : decode method_3_code 0 = .ok (.iload_n 0, 1) := by decide +kernel
theorem own_d11_1 : decode method_3_code 1 = .ok (.bipush 64, 2) := by decide +kernel
theorem own_d11_3 : decode method_3_code 3 = .ok (.if_icmp .gt 7, 3) := by decide +kernel
theorem own_d11_6 : decode method_3_code 6 = .ok (.iload_n 0, 1) := by decide +kernel
theorem own_d11_7 : decode method_3_code 7 = .ok (.iconst 1, 1) := by decide +kernel
theorem own_d11_8 : decode method_3_code 8 = .ok (.isub, 1) := by decide +kernel
theorem own_d11_9 : decode method_3_code 9 = .ok (.ireturn, 1) := by decide +kernel
theorem own_d11_10 : decode method_3_code 10 = .ok (.iload_n 0, 1) := by decide +kernel
theorem own_d11_11 : decode method_3_code 11 = .ok (.sipush 8193, 3) := by decide +kernel
theorem own_d11_14 : decode method_3_code 14 = .ok (.if_icmp .gt 7, 3) := by decide +kernel
theorem own_d11_17 : decode method_3_code 17 = .ok (.iload_n 0, 1) := by decide +kernel
theorem own_d11_18 : decode method_3_code 18 = .ok (.iconst 2, 1) := by decide +kernel
theorem own_d11_19 : decode method_3_code 19 = .ok (.isub, 1) := by decide +kernel
theorem own_d11_20 : decode method_3_code 20 = .ok (.ireturn, 1) := by decide +kernel
theorem own_d11_21 : decode method_3_code 21 = .ok (.iload_n 0, 1) := by decide +kernel
theorem own_d11_22 : decode method_3_code 22 = .ok (.ldc 7, 2) := by decide +kernel
theorem own_d11_24 : decode method_3_code 24 = .ok (.if_icmp .gt 7, 3) := by decide +kernel
theorem own_d11_27 : decode method_3_code 27 = .ok (.iload_n 0, 1) := by decide +kernel
theorem own_d11_28 : decode method_3_code 28 = .ok (.iconst 3, 1) := by decide +kernel
theorem own_d11_29 : decode method_3_code 29 = .ok (.isub, 1) := by decide +kernel
theorem own_d11_30 : decode method_3_code 30 = .ok (.ireturn, 1) := by decide +kernel
theorem own_d11_31 : decode method_3_code 31 = .ok (.iload_n 0, 1) := by decide +kernel
theorem own_d11_32 : decode method_3_code 32 = .ok (.ldc 8, 2) := by decide +kernel
theorem own_d11_34 : decode method_3_code 34 = .ok (.if_icmp .gt 7, 3) := by decide +kernel
theorem own_d11_37 : decode method_3_code 37 = .ok (.iload_n 0, 1) := by decide +kernel
theorem own_d11_38 : decode method_3_code 38 = .ok (.iconst 4, 1) := by decide +kernel
theorem own_d11_39 : decode method_3_code 39 = .ok (.isub, 1) := by decide +kernel
theorem own_d11_40 : decode method_3_code 40 = .ok (.ireturn, 1) := by decide +kernel
theorem own_d11_41 : decode method_3_code 41 = .ok (.iload_n 0, 1) := by decide +kernel
theorem own_d11_42 : decode method_3_code 42 = .ok (.iconst 5, 1) := by decide +kernel
theorem own_d11_43 : decode method_3_code 43 = .ok (.isub, 1) := by decide +kernel
theorem own_d11_44 : decode method_3_code 44 = .ok (.ireturn, 1) := by decide +kernel
theorem own_ef_own_rm11 (m : MethodId) (x0 : Int32) : entryFrame m #[(.int x0)] 1 = mkF m 0 #[.val (.int x0)] [] := by first | (simp [entryFrame, mkF, argsToLocals, Value.category]; done) | rfl
def own_rm11_ret (p_1 : Int32) : Int32 := if (64 : Int32) < p_1 then (if (8193 : Int32) < p_1 then (if (1048578 : Int32) < p_1 then (if (134217731 : Int32) < p_1 then (p_1 - (5 : Int32)) else (p_1 - (4 : Int32))) else (p_1 - (3 : Int32))) else (p_1 - (2 : Int32))) else (p_1 - (1 : Int32))
def own_Q11 (Z : State) (p_1 : Int32) (h0 : Heap) (n0 : Nat) (v : Option Value) (h : Heap) (L : List Loc) : Prop := ∃ (r_ : Int32), v = some (.int r_) ∧ Fr n0 L ∧ r_ = (own_rm11_ret p_1) ∧ h = h0
set_option maxRecDepth 65536 in
set_option maxHeartbeats 40000000 in
theorem own_rm11 (l : Launch) (Z : State) (a0 : Array Value) (hw : ∀ d ∈ tables_1, d.before a0 Z = true) (ws : List Jvm.Cond) (p_1 : Int32) (h0 : Heap) (n0 : Nat) (Z0 : n0 ≤ h0.size) :
    MetFree l (⟨"com/example/fencepost/fencepost/connector/RecordLimitLargestValuePinLaw", "expected", "(I)I"⟩ : MethodName) (head1 (Jvm.Cond.code (⟨"com/example/fencepost/fencepost/connector/RecordLimitLargestValuePinLaw", "expected", "(I)I"⟩ : MethodName) method_3_code 1 (some .int) :: ws) ({ frames := 0, cells := 0, slots := 0, locals := 0 } : Room)) (fun a U => a = #[(.int p_1)] ∧ Z.Warmed39 U.vm ∧ U.heap = h0) (fun _ _ _ _ _ => True) (fun _ U o U' => ∃ v L, o = .returned v ∧ own_Q11 Z p_1 h0 n0 v U'.heap L ∧ FrameEnd U o U' L ({ frames := 0, cells := 0, slots := 0, locals := 0 } : Room).cells ({ frames := 0, cells := 0, slots := 0, locals := 0 } : Room).slots) := by
  refine MetFree.of_bodySF (plainFor_of_name own_pn2) hisR ?_
  intro p e s m args below meth c s₁ Bd hml0 hP hK
  obtain ⟨rfl, hZ, hh⟩ := hP
  have hx := Bd.exec
  have hby := Bd.bytes
  have hml : c.maxLocals = 1 := hml0
  have hown : s.vm.findClass "com/example/fencepost/fencepost/connector/RecordLimitLargestValuePinLaw" = some m.cls := findClass_of_methodNamed Bd.named
  have hnm := (name_of_methodNamed Bd.named Bd.method).1
  have X0 : Stand p l e ({ frames := 0, cells := 0, slots := 0, locals := 0 } : Room) s m #[(.int p_1)] below meth c s₁ [] 0 0 := Stand.of_body Bd
  have e0 : s₁.heap = h0 := by rw [← hh, Bd.state]; rfl
  have N0 := Fr.nil n0
  have z0 : n0 ≤ h0.size := Z0
  show own_Go p.tables e below (fun t o => t.status = .running ∧ Ended t below o ∧ ∃ v L, o = .returned v ∧ own_Q11 Z p_1 h0 n0 v t.heap L ∧ FrameEnd s o t L ({ frames := 0, cells := 0, slots := 0, locals := 0 } : Room).cells ({ frames := 0, cells := 0, slots := 0, locals := 0 } : Room).slots) s₁ (entryFrame m #[(.int p_1)] 1)
  rw [own_ef_own_rm11 m p_1]
  show own_Go _ _ _ _ s₁ (mkF m 0 #[.val (.int p_1)] [])
  refine own_go (fun _ k => XS.iloadN X0.here hx rfl (hb hby own_d11_0) rfl k) ?_
  show own_Go _ _ _ _ s₁ (mkF m 1 #[.val (.int p_1)] [(.int p_1)])
  refine own_go (fun _ k => XS.bipush X0.here hx rfl (hb hby own_d11_1) k) ?_
  show own_Go _ _ _ _ s₁ (mkF m 3 #[.val (.int p_1)] [(.int (64 : Int32)), (.int p_1)])
  by_cases hc1 : (64 : Int32) < p_1
  · refine own_go (fun _ k => XS.icmpYes X0.here hx rfl (pc0 := 3) (pc' := 10) rfl (hb hby own_d11_3) rfl (Jvm.Free.XT.ii_gt_t hc1) (by decide) (by decide) k) ?_
    show own_Go _ _ _ _ s₁ (mkF m 10 #[.val (.int p_1)] [])
    refine own_go (fun _ k => XS.iloadN X0.here hx rfl (hb hby own_d11_10) rfl k) ?_
    show own_Go _ _ _ _ s₁ (mkF m 11 #[.val (.int p_1)] [(.int p_1)])
    refine own_go (fun _ k => XS.sipush X0.here hx rfl (hb hby own_d11_11) k) ?_
    show own_Go _ _ _ _ s₁ (mkF m 14 #[.val (.int p_1)] [(.int (8193 : Int32)), (.int p_1)])
    by_cases hc2 : (8193 : Int32) < p_1
    · refine own_go (fun _ k => XS.icmpYes X0.here hx rfl (pc0 := 14) (pc' := 21) rfl (hb hby own_d11_14) rfl (Jvm.Free.XT.ii_gt_t hc2) (by decide) (by decide) k) ?_
      show own_Go _ _ _ _ s₁ (mkF m 21 #[.val (.int p_1)] [])
      refine own_go (fun _ k => XS.iloadN X0.here hx rfl (hb hby own_d11_21) rfl k) ?_
      show own_Go _ _ _ _ s₁ (mkF m 22 #[.val (.int p_1)] [(.int p_1)])
      refine own_go (fun _ k => X0.ldcInt hx hown (mvT hZ (hw _ (List.mem_of_getElem? (i := 60) rfl))) (g := (mkF m 22 #[.val (.int p_1)] [(.int p_1)])) rfl (hb hby own_d11_22) _ k) ?_
      show own_Go _ _ _ _ s₁ (mkF m 24 #[.val (.int p_1)] [(.int (1048578 : Int32)), (.int p_1)])
      by_cases hc3 : (1048578 : Int32) < p_1
      · refine own_go (fun _ k => XS.icmpYes X0.here hx rfl (pc0 := 24) (pc' := 31) rfl (hb hby own_d11_24) rfl (Jvm.Free.XT.ii_gt_t hc3) (by decide) (by decide) k) ?_
        show own_Go _ _ _ _ s₁ (mkF m 31 #[.val (.int p_1)] [])
        refine own_go (fun _ k => XS.iloadN X0.here hx rfl (hb hby own_d11_31) rfl k) ?_
        show own_Go _ _ _ _ s₁ (mkF m 32 #[.val (.int p_1)] [(.int p_1)])
        refine own_go (fun _ k => X0.ldcInt hx hown (mvT hZ (hw _ (List.mem_of_getElem? (i := 61) rfl))) (g := (mkF m 32 #[.val (.int p_1)] [(.int p_1)])) rfl (hb hby own_d11_32) _ k) ?_
        show own_Go _ _ _ _ s₁ (mkF m 34 #[.val (.int p_1)] [(.int (134217731 : Int32)), (.int p_1)])
        by_cases hc4 : (134217731 : Int32) < p_1
        · refine own_go (fun _ k => XS.icmpYes X0.here hx rfl (pc0 := 34) (pc' := 41) rfl (hb hby own_d11_34) rfl (Jvm.Free.XT.ii_gt_t hc4) (by decide) (by decide) k) ?_
          show own_Go _ _ _ _ s₁ (mkF m 41 #[.val (.int p_1)] [])
          refine own_go (fun _ k => XS.iloadN X0.here hx rfl (hb hby own_d11_41) rfl k) ?_
          show own_Go _ _ _ _ s₁ (mkF m 42 #[.val (.int p_1)] [(.int p_1)])
          refine own_go (fun _ k => XS.iconst X0.here hx rfl (hb hby own_d11_42) k) ?_
          show own_Go _ _ _ _ s₁ (mkF m 43 #[.val (.int p_1)] [(.int (5 : Int32)), (.int p_1)])
          refine own_go (fun _ k => XS.isub X0.here hx rfl (hb hby own_d11_43) rfl k) ?_
          show own_Go _ _ _ _ s₁ (mkF m 44 #[.val (.int p_1)] [(.int (p_1 - (5 : Int32)))])
          obtain ⟨fs, hr, hrun, hended, hW, hsame⟩ := X0.leave (v := some (.int (p_1 - (5 : Int32)))) (fun h => by rw [Bd.returns] at h; cases h)
          refine ⟨_, _, retOut X0 hx Bd.returns rfl (Or.inl ⟨rfl, Or.inl rfl, _, rfl⟩) (hb hby own_d11_44) hr, hrun, hended, _, _, rfl, ?_, ⟨_, rfl⟩, hW, hsame.mono (by decide) (by decide)⟩
          show own_Q11 Z p_1 h0 n0 _ s₁.heap _
          rw [e0]
          exact ⟨_, rfl, N0, (by first | rfl | simp only [own_rm11_ret, if_pos hc1, if_pos hc2, if_pos hc3, if_pos hc4]), rfl⟩
        · refine own_go (fun _ k => XS.icmpNo X0.here hx rfl (hb hby own_d11_34) rfl (Jvm.Free.XT.ii_gt_f hc4) k) ?_
          show own_Go _ _ _ _ s₁ (mkF m 37 #[.val (.int p_1)] [])
          refine own_go (fun _ k => XS.iloadN X0.here hx rfl (hb hby own_d11_37) rfl k) ?_
          show own_Go _ _ _ _ s₁ (mkF m 38 #[.val (.int p_1)] [(.int p_1)])
          refine own_go (fun _ k => XS.iconst X0.here hx rfl (hb hby own_d11_38) k) ?_
          show own_Go _ _ _ _ s₁ (mkF m 39 #[.val (.int p_1)] [(.int (4 : Int32)), (.int p_1)])
          refine own_go (fun _ k => XS.isub X0.here hx rfl (hb hby own_d11_39) rfl k) ?_
          show own_Go _ _ _ _ s₁ (mkF m 40 #[.val (.int p_1)] [(.int (p_1 - (4 : Int32)))])
          obtain ⟨fs, hr, hrun, hended, hW, hsame⟩ := X0.leave (v := some (.int (p_1 - (4 : Int32)))) (fun h => by rw [Bd.returns] at h; cases h)
          refine ⟨_, _, retOut X0 hx Bd.returns rfl (Or.inl ⟨rfl, Or.inl rfl, _, rfl⟩) (hb hby own_d11_40) hr, hrun, hended, _, _, rfl, ?_, ⟨_, rfl⟩, hW, hsame.mono (by decide) (by decide)⟩
          show own_Q11 Z p_1 h0 n0 _ s₁.heap _
          rw [e0]
          exact ⟨_, rfl, N0, (by first | rfl | simp only [own_rm11_ret, if_pos hc1, if_pos hc2, if_pos hc3, if_neg hc4]), rfl⟩
      · refine own_go (fun _ k => XS.icmpNo X0.here hx rfl (hb hby own_d11_24) rfl (Jvm.Free.XT.ii_gt_f hc3) k) ?_
        show own_Go _ _ _ _ s₁ (mkF m 27 #[.val (.int p_1)] [])
        refine own_go (fun _ k => XS.iloadN X0.here hx rfl (hb hby own_d11_27) rfl k) ?_
        show own_Go _ _ _ _ s₁ (mkF m 28 #[.val (.int p_1)] [(.int p_1)])
        refine own_go (fun _ k => XS.iconst X0.here hx rfl (hb hby own_d11_28) k) ?_
        show own_Go _ _ _ _ s₁ (mkF m 29 #[.val (.int p_1)] [(.int (3 : Int32)), (.int p_1)])
        refine own_go (fun _ k => XS.isub X0.here hx rfl (hb hby own_d11_29) rfl k) ?_
        show own_Go _ _ _ _ s₁ (mkF m 30 #[.val (.int p_1)] [(.int (p_1 - (3 : Int32)))])
        obtain ⟨fs, hr, hrun, hended, hW, hsame⟩ := X0.leave (v := some (.int (p_1 - (3 : Int32)))) (fun h => by rw [Bd.returns] at h; cases h)
        refine ⟨_, _, retOut X0 hx Bd.returns rfl (Or.inl ⟨rfl, Or.inl rfl, _, rfl⟩) (hb hby own_d11_30) hr, hrun, hended, _, _, rfl, ?_, ⟨_, rfl⟩, hW, hsame.mono (by decide) (by decide)⟩
        show own_Q11 Z p_1 h0 n0 _ s₁.heap _
        rw [e0]
        exact ⟨_, rfl, N0, (by first | rfl | simp only [own_rm11_ret, if_pos hc1, if_pos hc2, if_neg hc3]), rfl⟩
    · refine own_go (fun _ k => XS.icmpNo X0.here hx rfl (hb hby own_d11_14) rfl (Jvm.Free.XT.ii_gt_f hc2) k) ?_
      show own_Go _ _ _ _ s₁ (mkF m 17 #[.val (.int p_1)] [])
      refine own_go (fun _ k => XS.iloadN X0.here hx rfl (hb hby own_d11_17) rfl k) ?_
      show own_Go _ _ _ _ s₁ (mkF m 18 #[.val (.int p_1)] [(.int p_1)])
      refine own_go (fun _ k => XS.iconst X0.here hx rfl (hb hby own_d11_18) k) ?_
      show own_Go _ _ _ _ s₁ (mkF m 19 #[.val (.int p_1)] [(.int (2 : Int32)), (.int p_1)])
      refine own_go (fun _ k => XS.isub X0.here hx rfl (hb hby own_d11_19) rfl k) ?_
      show own_Go _ _ _ _ s₁ (mkF m 20 #[.val (.int p_1)] [(.int (p_1 - (2 : Int32)))])
      obtain ⟨fs, hr, hrun, hended, hW, hsame⟩ := X0.leave (v := some (.int (p_1 - (2 : Int32)))) (fun h => by rw [Bd.returns] at h; cases h)
      refine ⟨_, _, retOut X0 hx Bd.returns rfl (Or.inl ⟨rfl, Or.inl rfl, _, rfl⟩) (hb hby own_d11_20) hr, hrun, hended, _, _, rfl, ?_, ⟨_, rfl⟩, hW, hsame.mono (by decide) (by decide)⟩
      show own_Q11 Z p_1 h0 n0 _ s₁.heap _
      rw [e0]
      exact ⟨_, rfl, N0, (by first | rfl | simp only [own_rm11_ret, if_pos hc1, if_neg hc2]), rfl⟩
  · refine own_go (fun _ k => XS.icmpNo X0.here hx rfl (hb hby own_d11_3) rfl (Jvm.Free.XT.ii_gt_f hc1) k) ?_
    show own_Go _ _ _ _ s₁ (mkF m 6 #[.val (.int p_1)] [])
    refine own_go (fun _ k => XS.iloadN X0.here hx rfl (hb hby own_d11_6) rfl k) ?_
    show own_Go _ _ _ _ s₁ (mkF m 7 #[.val (.int p_1)] [(.int p_1)])
    refine own_go (fun _ k => XS.iconst X0.here hx rfl (hb hby own_d11_7) k) ?_
    show own_Go _ _ _ _ s₁ (mkF m 8 #[.val (.int p_1)] [(.int (1 : Int32)), (.int p_1)])
    refine own_go (fun _ k => XS.isub X0.here hx rfl (hb hby own_d11_8) rfl k) ?_
    show own_Go _ _ _ _ s₁ (mkF m 9 #[.val (.int p_1)] [(.int (p_1 - (1 : Int32)))])
    obtain ⟨fs, hr, hrun, hended, hW, hsame⟩ := X0.leave (v := some (.int (p_1 - (1 : Int32)))) (fun h => by rw [Bd.returns] at h; cases h)
    refine ⟨_, _, retOut X0 hx Bd.returns rfl (Or.inl ⟨rfl, Or.inl rfl, _, rfl⟩) (hb hby own_d11_9) hr, hrun, hended, _, _, rfl, ?_, ⟨_, rfl⟩, hW, hsame.mono (by decide) (by decide)⟩
    show own_Q11 Z p_1 h0 n0 _ s₁.heap _
    rw [e0]
    exact ⟨_, rfl, N0, (by first | rfl | simp only [own_rm11_ret, if_neg hc1]), rfl⟩
theorem own_d5_0 : decode prog_16_method_4_code 0 = .ok (.aload_n 0, 1) := by decide +kernel
theorem own_d5_1 : decode prog_16_method_4_code 1 = .ok (.aload_n 1, 1) := by decide +kernel
theorem own_d5_2 : decode prog_16_method_4_code 2 = .ok (.invokevirtual 25, 3) := by decide +kernel
theorem own_d5_5 : decode prog_16_method_4_code 5 = .ok (.istore_n 2, 1) := by decide +kernel
theorem own_d5_6 : decode prog_16_method_4_code 6 = .ok (.iload_n 2, 1) := by decide +kernel
theorem own_d5_7 : decode prog_16_method_4_code 7 = .ok (.iconst 1, 1) := by decide +kernel
theorem own_d5_8 : decode prog_16_method_4_code 8 = .ok (.isub, 1) := by decide +kernel
theorem own_d5_9 : decode prog_16_method_4_code 9 = .ok (.istore_n 3, 1) := by decide +kernel
theorem own_d5_10 : decode prog_16_method_4_code 10 = .ok (.iload_n 3, 1) := by decide +kernel
theorem own_d5_11 : decode prog_16_method_4_code 11 = .ok (.ifCond .lt 19, 3) := by decide +kernel
theorem own_d5_14 : decode prog_16_method_4_code 14 = .ok (.iload_n 3, 1) := by decide +kernel
theorem own_d5_15 : decode prog_16_method_4_code 15 = .ok (.iload_n 3, 1) := by decide +kernel
theorem own_d5_16 : decode prog_16_method_4_code 16 = .ok (.invokestatic 29, 3) := by decide +kernel
theorem own_d5_19 : decode prog_16_method_4_code 19 = .ok (.iadd, 1) := by decide +kernel
theorem own_d5_20 : decode prog_16_method_4_code 20 = .ok (.iload_n 2, 1) := by decide +kernel
theorem own_d5_21 : decode prog_16_method_4_code 21 = .ok (.if_icmp .le 9, 3) := by decide +kernel
theorem own_d5_24 : decode prog_16_method_4_code 24 = .ok (.iinc 3 (-1), 3) := by decide +kernel
theorem own_d5_27 : decode prog_16_method_4_code 27 = .ok (.goto (-17), 3) := by decide +kernel
theorem own_d5_30 : decode prog_16_method_4_code 30 = .ok (.iload_n 3, 1) := by decide +kernel
theorem own_d5_31 : decode prog_16_method_4_code 31 = .ok (.ireturn, 1) := by decide +kernel
theorem own_ef_own_rm5n (m : MethodId) (x0 : Addr) : entryFrame m #[(.ref x0), .null] 4 = mkF m 0 #[.val (.ref x0), .val .null, .unset, .unset] [] := by first | (simp [entryFrame, mkF, argsToLocals, Value.category]; done) | rfl
set_option maxRecDepth 65536 in
set_option maxHeartbeats 4000000 in
theorem own_t5n_0 (w_largestRecord_a_1 : Int32) (r4 : Int32) (hR : -20000 ≤ (((w_largestRecord_a_1 - (82 : Int32)) - (1 : Int32)) - (1 : Int32)).toInt ∧ (((w_largestRecord_a_1 - (82 : Int32)) - (1 : Int32)) - (1 : Int32)).toInt ≤ 2147483600) (hr_r4 : r4 = (((w_largestRecord_a_1 - (82 : Int32)) - (1 : Int32)) - (1 : Int32))) : -20000 ≤ r4.toInt ∧ r4.toInt ≤ 2147483600 := by
  rw [hr_r4]; exact hR
set_option maxRecDepth 65536 in
set_option maxHeartbeats 4000000 in
theorem own_t5n_1 (r4 : Int32) (v5 : Int32) (hRb : -20000 ≤ r4.toInt ∧ r4.toInt ≤ 2147483600) (hdv5 : (r4 - (1 : Int32)) = v5) : v5.toInt = r4.toInt - 1 := by
  have el0 : (1 : Int32).toInt = 1 := by decide
  have rv_r4 := rng32 r4
  have rv_v5 := rng32 v5
  have fa3 := c_isub r4 (1 : Int32)
  have fa4 := rng32 (r4 - (1 : Int32))
  have own0 : (0 : Int32).toInt = 0 := by decide
  simp only [← Int32.toInt_inj, Int32.lt_iff_toInt_lt, implies_true, and_true, true_and, own0, el0] at *
  omega
set_option maxRecDepth 65536 in
set_option maxHeartbeats 4000000 in
theorem own_t5n_2 (r4 : Int32) (v5 : Int32) (hRb : -20000 ≤ r4.toInt ∧ r4.toInt ≤ 2147483600) (hval1 : v5.toInt = r4.toInt - 1) (hc6 : v5 < 0) : v5 = (own_rm11_ret r4) := by
  apply Int32.toInt_inj.mp
  unfold own_rm11_ret
  have own0 : (0 : Int32).toInt = 0 := by decide
  have e64 : (64 : Int32).toInt = 64 := by decide
  have e8193 : (8193 : Int32).toInt = 8193 := by decide
  have e1048578 : (1048578 : Int32).toInt = 1048578 := by decide
  have e134217731 : (134217731 : Int32).toInt = 134217731 := by decide
  simp only [Int32.lt_iff_toInt_lt, own0] at hc6
  by_cases c64 : (64 : Int32) < r4
  · rw [if_pos c64]; rw [Int32.lt_iff_toInt_lt, e64] at c64
    by_cases c8193 : (8193 : Int32) < r4
    · rw [if_pos c8193]; rw [Int32.lt_iff_toInt_lt, e8193] at c8193
      by_cases c1048578 : (1048578 : Int32) < r4
      · rw [if_pos c1048578]; rw [Int32.lt_iff_toInt_lt, e1048578] at c1048578
        by_cases c134217731 : (134217731 : Int32) < r4
        · rw [if_pos c134217731]; rw [Int32.lt_iff_toInt_lt, e134217731] at c134217731
          rw [own_subx r4 (5 : Int32) 5 (by decide) (by omega)]; omega
        · rw [if_neg c134217731, own_subx r4 (4 : Int32) 4 (by decide) (by omega)]; rw [Int32.lt_iff_toInt_lt, e134217731] at c134217731; omega
      · rw [if_neg c1048578, own_subx r4 (3 : Int32) 3 (by decide) (by omega)]; rw [Int32.lt_iff_toInt_lt, e1048578] at c1048578; omega
    · rw [if_neg c8193, own_subx r4 (2 : Int32) 2 (by decide) (by omega)]; rw [Int32.lt_iff_toInt_lt, e8193] at c8193; omega
  · rw [if_neg c64, own_subx r4 (1 : Int32) 1 (by decide) (by omega)]; rw [Int32.lt_iff_toInt_lt, e64] at c64; omega
set_option maxRecDepth 65536 in
set_option maxHeartbeats 4000000 in
theorem own_t5n_3 (r4 : Int32) (v5 : Int32) (v12 : Int32) (hRb : -20000 ≤ r4.toInt ∧ r4.toInt ≤ 2147483600) (hval1 : v5.toInt = r4.toInt - 1) (hdv12 : (v5 + (-1 : Int32)) = v12) : v12.toInt = r4.toInt - 2 := by
  have el0 : (-1 : Int32).toInt = -1 := by decide
  have rv_r4 := rng32 r4
  have rv_v5 := rng32 v5
  have rv_v12 := rng32 v12
  have fa4 := c_iadd v5 (-1 : Int32)
  have fa5 := rng32 (v5 + (-1 : Int32))
  have own0 : (0 : Int32).toInt = 0 := by decide
  simp only [← Int32.toInt_inj, Int32.lt_iff_toInt_lt, implies_true, and_true, true_and, own0, el0] at *
  omega
set_option maxRecDepth 65536 in
set_option maxHeartbeats 4000000 in
theorem own_t5n_4 (r4 : Int32) (v5 : Int32) (r9 : Int32) (v12 : Int32) (hRb : -20000 ≤ r4.toInt ∧ r4.toInt ≤ 2147483600) (hval1 : v5.toInt = r4.toInt - 1) (hc6 : ¬ (v5 < 0)) (f10 : v5.toInt < 0 ∨ (v5.toInt < 64 ∧ r9.toInt = 1) ∨ (64 ≤ v5.toInt ∧ v5.toInt < 8192 ∧ r9.toInt = 2) ∨ (8192 ≤ v5.toInt ∧ v5.toInt < 1048576 ∧ r9.toInt = 3) ∨ (1048576 ≤ v5.toInt ∧ v5.toInt < 134217728 ∧ r9.toInt = 4) ∨ (134217728 ≤ v5.toInt ∧ r9.toInt = 5)) (hc11 : r4 < (v5 + r9)) (hval2 : v12.toInt = r4.toInt - 2) (hc13 : v12 < 0) : v12 = (own_rm11_ret r4) := by
  apply Int32.toInt_inj.mp
  unfold own_rm11_ret
  have own0 : (0 : Int32).toInt = 0 := by decide
  have e64 : (64 : Int32).toInt = 64 := by decide
  have e8193 : (8193 : Int32).toInt = 8193 := by decide
  have e1048578 : (1048578 : Int32).toInt = 1048578 := by decide
  have e134217731 : (134217731 : Int32).toInt = 134217731 := by decide
  simp only [Int32.lt_iff_toInt_lt, own0] at hc6 hc11 hc13
  have bv5 : 1 ≤ r9.toInt ∧ r9.toInt ≤ 5 := by
    clear hc11 hc13 hRb
    rcases f10 with hh | hh | hh | hh | hh | hh <;> omega
  rw [own_addx v5 r9 (by omega) (by omega)] at hc11
  have p1 : 2 ≤ r9.toInt := by
    rcases f10 with hh | hh | hh | hh | hh | hh <;> omega
  have p3 : 64 ≤ v5.toInt := by
    rcases f10 with hh | hh | hh | hh | hh | hh <;> omega
  clear f10
  by_cases c64 : (64 : Int32) < r4
  · rw [if_pos c64]; rw [Int32.lt_iff_toInt_lt, e64] at c64
    by_cases c8193 : (8193 : Int32) < r4
    · rw [if_pos c8193]; rw [Int32.lt_iff_toInt_lt, e8193] at c8193
      by_cases c1048578 : (1048578 : Int32) < r4
      · rw [if_pos c1048578]; rw [Int32.lt_iff_toInt_lt, e1048578] at c1048578
        by_cases c134217731 : (134217731 : Int32) < r4
        · rw [if_pos c134217731]; rw [Int32.lt_iff_toInt_lt, e134217731] at c134217731
          rw [own_subx r4 (5 : Int32) 5 (by decide) (by omega)]; omega
        · rw [if_neg c134217731, own_subx r4 (4 : Int32) 4 (by decide) (by omega)]; rw [Int32.lt_iff_toInt_lt, e134217731] at c134217731; omega
      · rw [if_neg c1048578, own_subx r4 (3 : Int32) 3 (by decide) (by omega)]; rw [Int32.lt_iff_toInt_lt, e1048578] at c1048578; omega
    · rw [if_neg c8193, own_subx r4 (2 : Int32) 2 (by decide) (by omega)]; rw [Int32.lt_iff_toInt_lt, e8193] at c8193; omega
  · rw [if_neg c64, own_subx r4 (1 : Int32) 1 (by decide) (by omega)]; rw [Int32.lt_iff_toInt_lt, e64] at c64; omega
set_option maxRecDepth 65536 in
set_option maxHeartbeats 4000000 in
theorem own_t5n_5 (r4 : Int32) (v12 : Int32) (v19 : Int32) (hRb : -20000 ≤ r4.toInt ∧ r4.toInt ≤ 2147483600) (hval2 : v12.toInt = r4.toInt - 2) (hdv19 : (v12 + (-1 : Int32)) = v19) : v19.toInt = r4.toInt - 3 := by
  have el0 : (-1 : Int32).toInt = -1 := by decide
  have rv_r4 := rng32 r4
  have rv_v12 := rng32 v12
  have rv_v19 := rng32 v19
  have fa4 := c_iadd v12 (-1 : Int32)
  have fa5 := rng32 (v12 + (-1 : Int32))
  have own0 : (0 : Int32).toInt = 0 := by decide
  simp only [← Int32.toInt_inj, Int32.lt_iff_toInt_lt, implies_true, and_true, true_and, own0, el0] at *
  omega
set_option maxRecDepth 65536 in
set_option maxHeartbeats 4000000 in
theorem own_t5n_6 (r4 : Int32) (v5 : Int32) (r9 : Int32) (v12 : Int32) (r16 : Int32) (v19 : Int32) (hRb : -20000 ≤ r4.toInt ∧ r4.toInt ≤ 2147483600) (hval1 : v5.toInt = r4.toInt - 1) (f10 : v5.toInt < 0 ∨ (v5.toInt < 64 ∧ r9.toInt = 1) ∨ (64 ≤ v5.toInt ∧ v5.toInt < 8192 ∧ r9.toInt = 2) ∨ (8192 ≤ v5.toInt ∧ v5.toInt < 1048576 ∧ r9.toInt = 3) ∨ (1048576 ≤ v5.toInt ∧ v5.toInt < 134217728 ∧ r9.toInt = 4) ∨ (134217728 ≤ v5.toInt ∧ r9.toInt = 5)) (hc11 : r4 < (v5 + r9)) (hval2 : v12.toInt = r4.toInt - 2) (hc13 : ¬ (v12 < 0)) (f17 : v12.toInt < 0 ∨ (v12.toInt < 64 ∧ r16.toInt = 1) ∨ (64 ≤ v12.toInt ∧ v12.toInt < 8192 ∧ r16.toInt = 2) ∨ (8192 ≤ v12.toInt ∧ v12.toInt < 1048576 ∧ r16.toInt = 3) ∨ (1048576 ≤ v12.toInt ∧ v12.toInt < 134217728 ∧ r16.toInt = 4) ∨ (134217728 ≤ v12.toInt ∧ r16.toInt = 5)) (hc18 : r4 < (v12 + r16)) (hval3 : v19.toInt = r4.toInt - 3) (hc20 : v19 < 0) : v19 = (own_rm11_ret r4) := by
  apply Int32.toInt_inj.mp
  unfold own_rm11_ret
  have own0 : (0 : Int32).toInt = 0 := by decide
  have e64 : (64 : Int32).toInt = 64 := by decide
  have e8193 : (8193 : Int32).toInt = 8193 := by decide
  have e1048578 : (1048578 : Int32).toInt = 1048578 := by decide
  have e134217731 : (134217731 : Int32).toInt = 134217731 := by decide
  simp only [Int32.lt_iff_toInt_lt, own0] at hc13 hc18 hc20
  clear hc11
  have bv12 : 1 ≤ r16.toInt ∧ r16.toInt ≤ 5 := by
    clear f10 hc18 hc20 hRb
    rcases f17 with hh | hh | hh | hh | hh | hh <;> omega
  rw [own_addx v12 r16 (by omega) (by omega)] at hc18
  have p1 : 3 ≤ r16.toInt := by
    rcases f17 with hh | hh | hh | hh | hh | hh <;> omega
  have p3 : 8192 ≤ v12.toInt := by
    rcases f17 with hh | hh | hh | hh | hh | hh <;> omega
  clear f17
  by_cases c64 : (64 : Int32) < r4
  · rw [if_pos c64]; rw [Int32.lt_iff_toInt_lt, e64] at c64
    by_cases c8193 : (8193 : Int32) < r4
    · rw [if_pos c8193]; rw [Int32.lt_iff_toInt_lt, e8193] at c8193
      by_cases c1048578 : (1048578 : Int32) < r4
      · rw [if_pos c1048578]; rw [Int32.lt_iff_toInt_lt, e1048578] at c1048578
        by_cases c134217731 : (134217731 : Int32) < r4
        · rw [if_pos c134217731]; rw [Int32.lt_iff_toInt_lt, e134217731] at c134217731
          rw [own_subx r4 (5 : Int32) 5 (by decide) (by omega)]; omega
        · rw [if_neg c134217731, own_subx r4 (4 : Int32) 4 (by decide) (by omega)]; rw [Int32.lt_iff_toInt_lt, e134217731] at c134217731; omega
      · rw [if_neg c1048578, own_subx r4 (3 : Int32) 3 (by decide) (by omega)]; rw [Int32.lt_iff_toInt_lt, e1048578] at c1048578; omega
    · rw [if_neg c8193, own_subx r4 (2 : Int32) 2 (by decide) (by omega)]; rw [Int32.lt_iff_toInt_lt, e8193] at c8193; omega
  · rw [if_neg c64, own_subx r4 (1 : Int32) 1 (by decide) (by omega)]; rw [Int32.lt_iff_toInt_lt, e64] at c64; omega
set_option maxRecDepth 65536 in
set_option maxHeartbeats 4000000 in
theorem own_t5n_7 (r4 : Int32) (v19 : Int32) (v26 : Int32) (hRb : -20000 ≤ r4.toInt ∧ r4.toInt ≤ 2147483600) (hval3 : v19.toInt = r4.toInt - 3) (hdv26 : (v19 + (-1 : Int32)) = v26) : v26.toInt = r4.toInt - 4 := by
  have el0 : (-1 : Int32).toInt = -1 := by decide
  have rv_r4 := rng32 r4
  have rv_v19 := rng32 v19
  have rv_v26 := rng32 v26
  have fa4 := c_iadd v19 (-1 : Int32)
  have fa5 := rng32 (v19 + (-1 : Int32))
  have own0 : (0 : Int32).toInt = 0 := by decide
  simp only [← Int32.toInt_inj, Int32.lt_iff_toInt_lt, implies_true, and_true, true_and, own0, el0] at *
  omega
set_option maxRecDepth 65536 in
set_option maxHeartbeats 4000000 in
theorem own_t5n_8 (r4 : Int32) (v5 : Int32) (v12 : Int32) (r16 : Int32) (v19 : Int32) (r23 : Int32) (v26 : Int32) (hRb : -20000 ≤ r4.toInt ∧ r4.toInt ≤ 2147483600) (hval1 : v5.toInt = r4.toInt - 1) (hval2 : v12.toInt = r4.toInt - 2) (f17 : v12.toInt < 0 ∨ (v12.toInt < 64 ∧ r16.toInt = 1) ∨ (64 ≤ v12.toInt ∧ v12.toInt < 8192 ∧ r16.toInt = 2) ∨ (8192 ≤ v12.toInt ∧ v12.toInt < 1048576 ∧ r16.toInt = 3) ∨ (1048576 ≤ v12.toInt ∧ v12.toInt < 134217728 ∧ r16.toInt = 4) ∨ (134217728 ≤ v12.toInt ∧ r16.toInt = 5)) (hc18 : r4 < (v12 + r16)) (hval3 : v19.toInt = r4.toInt - 3) (hc20 : ¬ (v19 < 0)) (f24 : v19.toInt < 0 ∨ (v19.toInt < 64 ∧ r23.toInt = 1) ∨ (64 ≤ v19.toInt ∧ v19.toInt < 8192 ∧ r23.toInt = 2) ∨ (8192 ≤ v19.toInt ∧ v19.toInt < 1048576 ∧ r23.toInt = 3) ∨ (1048576 ≤ v19.toInt ∧ v19.toInt < 134217728 ∧ r23.toInt = 4) ∨ (134217728 ≤ v19.toInt ∧ r23.toInt = 5)) (hc25 : r4 < (v19 + r23)) (hval4 : v26.toInt = r4.toInt - 4) (hc27 : v26 < 0) : v26 = (own_rm11_ret r4) := by
  apply Int32.toInt_inj.mp
  unfold own_rm11_ret
  have own0 : (0 : Int32).toInt = 0 := by decide
  have e64 : (64 : Int32).toInt = 64 := by decide
  have e8193 : (8193 : Int32).toInt = 8193 := by decide
  have e1048578 : (1048578 : Int32).toInt = 1048578 := by decide
  have e134217731 : (134217731 : Int32).toInt = 134217731 := by decide
  simp only [Int32.lt_iff_toInt_lt, own0] at hc20 hc25 hc27
  clear hc18
  have bv19 : 1 ≤ r23.toInt ∧ r23.toInt ≤ 5 := by
    clear f17 hc25 hc27 hRb
    rcases f24 with hh | hh | hh | hh | hh | hh <;> omega
  rw [own_addx v19 r23 (by omega) (by omega)] at hc25
  have p1 : 4 ≤ r23.toInt := by
    rcases f24 with hh | hh | hh | hh | hh | hh <;> omega
  have p3 : 1048576 ≤ v19.toInt := by
    rcases f24 with hh | hh | hh | hh | hh | hh <;> omega
  clear f24
  by_cases c64 : (64 : Int32) < r4
  · rw [if_pos c64]; rw [Int32.lt_iff_toInt_lt, e64] at c64
    by_cases c8193 : (8193 : Int32) < r4
    · rw [if_pos c8193]; rw [Int32.lt_iff_toInt_lt, e8193] at c8193
      by_cases c1048578 : (1048578 : Int32) < r4
      · rw [if_pos c1048578]; rw [Int32.lt_iff_toInt_lt, e1048578] at c1048578
        by_cases c134217731 : (134217731 : Int32) < r4
        · rw [if_pos c134217731]; rw [Int32.lt_iff_toInt_lt, e134217731] at c134217731
          rw [own_subx r4 (5 : Int32) 5 (by decide) (by omega)]; omega
        · rw [if_neg c134217731, own_subx r4 (4 : Int32) 4 (by decide) (by omega)]; rw [Int32.lt_iff_toInt_lt, e134217731] at c134217731; omega
      · rw [if_neg c1048578, own_subx r4 (3 : Int32) 3 (by decide) (by omega)]; rw [Int32.lt_iff_toInt_lt, e1048578] at c1048578; omega
    · rw [if_neg c8193, own_subx r4 (2 : Int32) 2 (by decide) (by omega)]; rw [Int32.lt_iff_toInt_lt, e8193] at c8193; omega
  · rw [if_neg c64, own_subx r4 (1 : Int32) 1 (by decide) (by omega)]; rw [Int32.lt_iff_toInt_lt, e64] at c64; omega
set_option maxRecDepth 65536 in
set_option maxHeartbeats 4000000 in
theorem own_t5n_9 (r4 : Int32) (v26 : Int32) (v33 : Int32) (hRb : -20000 ≤ r4.toInt ∧ r4.toInt ≤ 2147483600) (hval4 : v26.toInt = r4.toInt - 4) (hdv33 : (v26 + (-1 : Int32)) = v33) : v33.toInt = r4.toInt - 5 := by
  have el0 : (-1 : Int32).toInt = -1 := by decide
  have rv_r4 := rng32 r4
  have rv_v26 := rng32 v26
  have rv_v33 := rng32 v33
  have fa4 := c_iadd v26 (-1 : Int32)
  have fa5 := rng32 (v26 + (-1 : Int32))
  have own0 : (0 : Int32).toInt = 0 := by decide
  simp only [← Int32.toInt_inj, Int32.lt_iff_toInt_lt, implies_true, and_true, true_and, own0, el0] at *
  omega
set_option maxRecDepth 65536 in
set_option maxHeartbeats 4000000 in
theorem own_t5n_10 (r4 : Int32) (v5 : Int32) (v12 : Int32) (v19 : Int32) (r23 : Int32) (v26 : Int32) (r30 : Int32) (v33 : Int32) (hRb : -20000 ≤ r4.toInt ∧ r4.toInt ≤ 2147483600) (hval1 : v5.toInt = r4.toInt - 1) (hval2 : v12.toInt = r4.toInt - 2) (hval3 : v19.toInt = r4.toInt - 3) (f24 : v19.toInt < 0 ∨ (v19.toInt < 64 ∧ r23.toInt = 1) ∨ (64 ≤ v19.toInt ∧ v19.toInt < 8192 ∧ r23.toInt = 2) ∨ (8192 ≤ v19.toInt ∧ v19.toInt < 1048576 ∧ r23.toInt = 3) ∨ (1048576 ≤ v19.toInt ∧ v19.toInt < 134217728 ∧ r23.toInt = 4) ∨ (134217728 ≤ v19.toInt ∧ r23.toInt = 5)) (hc25 : r4 < (v19 + r23)) (hval4 : v26.toInt = r4.toInt - 4) (hc27 : ¬ (v26 < 0)) (f31 : v26.toInt < 0 ∨ (v26.toInt < 64 ∧ r30.toInt = 1) ∨ (64 ≤ v26.toInt ∧ v26.toInt < 8192 ∧ r30.toInt = 2) ∨ (8192 ≤ v26.toInt ∧ v26.toInt < 1048576 ∧ r30.toInt = 3) ∨ (1048576 ≤ v26.toInt ∧ v26.toInt < 134217728 ∧ r30.toInt = 4) ∨ (134217728 ≤ v26.toInt ∧ r30.toInt = 5)) (hc32 : r4 < (v26 + r30)) (hval5 : v33.toInt = r4.toInt - 5) (hc34 : v33 < 0) : v33 = (own_rm11_ret r4) := by
  apply Int32.toInt_inj.mp
  unfold own_rm11_ret
  have own0 : (0 : Int32).toInt = 0 := by decide
  have e64 : (64 : Int32).toInt = 64 := by decide
  have e8193 : (8193 : Int32).toInt = 8193 := by decide
  have e1048578 : (1048578 : Int32).toInt = 1048578 := by decide
  have e134217731 : (134217731 : Int32).toInt = 134217731 := by decide
  simp only [Int32.lt_iff_toInt_lt, own0] at hc27 hc32 hc34
  clear hc25
  have bv26 : 1 ≤ r30.toInt ∧ r30.toInt ≤ 5 := by
    clear f24 hc32 hc34 hRb
    rcases f31 with hh | hh | hh | hh | hh | hh <;> omega
  rw [own_addx v26 r30 (by omega) (by omega)] at hc32
  have p1 : 5 ≤ r30.toInt := by
    rcases f31 with hh | hh | hh | hh | hh | hh <;> omega
  have p3 : 134217728 ≤ v26.toInt := by
    rcases f31 with hh | hh | hh | hh | hh | hh <;> omega
  clear f31
  by_cases c64 : (64 : Int32) < r4
  · rw [if_pos c64]; rw [Int32.lt_iff_toInt_lt, e64] at c64
    by_cases c8193 : (8193 : Int32) < r4
    · rw [if_pos c8193]; rw [Int32.lt_iff_toInt_lt, e8193] at c8193
      by_cases c1048578 : (1048578 : Int32) < r4
      · rw [if_pos c1048578]; rw [Int32.lt_iff_toInt_lt, e1048578] at c1048578
        by_cases c134217731 : (134217731 : Int32) < r4
        · rw [if_pos c134217731]; rw [Int32.lt_iff_toInt_lt, e134217731] at c134217731
          rw [own_subx r4 (5 : Int32) 5 (by decide) (by omega)]; omega
        · rw [if_neg c134217731, own_subx r4 (4 : Int32) 4 (by decide) (by omega)]; rw [Int32.lt_iff_toInt_lt, e134217731] at c134217731; omega
      · rw [if_neg c1048578, own_subx r4 (3 : Int32) 3 (by decide) (by omega)]; rw [Int32.lt_iff_toInt_lt, e1048578] at c1048578; omega
    · rw [if_neg c8193, own_subx r4 (2 : Int32) 2 (by decide) (by omega)]; rw [Int32.lt_iff_toInt_lt, e8193] at c8193; omega
  · rw [if_neg c64, own_subx r4 (1 : Int32) 1 (by decide) (by omega)]; rw [Int32.lt_iff_toInt_lt, e64] at c64; omega
set_option maxRecDepth 65536 in
set_option maxHeartbeats 4000000 in
theorem own_t5n_11 (r4 : Int32) (v33 : Int32) (r37 : Int32) (hRb : -20000 ≤ r4.toInt ∧ r4.toInt ≤ 2147483600) (hval5 : v33.toInt = r4.toInt - 5) (hc34 : ¬ (v33 < 0)) (f38 : v33.toInt < 0 ∨ (v33.toInt < 64 ∧ r37.toInt = 1) ∨ (64 ≤ v33.toInt ∧ v33.toInt < 8192 ∧ r37.toInt = 2) ∨ (8192 ≤ v33.toInt ∧ v33.toInt < 1048576 ∧ r37.toInt = 3) ∨ (1048576 ≤ v33.toInt ∧ v33.toInt < 134217728 ∧ r37.toInt = 4) ∨ (134217728 ≤ v33.toInt ∧ r37.toInt = 5)) : ¬ (r4 < (v33 + r37)) := by
  have rv_r4 := rng32 r4
  have rv_v33 := rng32 v33
  have rv_r37 := rng32 r37
  have fa3 := c_iadd v33 r37
  have fa4 := rng32 (v33 + r37)
  have own0 : (0 : Int32).toInt = 0 := by decide
  simp only [← Int32.toInt_inj, Int32.lt_iff_toInt_lt, implies_true, and_true, true_and, own0] at *
  omega
set_option maxRecDepth 65536 in
set_option maxHeartbeats 4000000 in
theorem own_t5n_12 (r4 : Int32) (v5 : Int32) (v12 : Int32) (v19 : Int32) (v26 : Int32) (r30 : Int32) (v33 : Int32) (r37 : Int32) (hRb : -20000 ≤ r4.toInt ∧ r4.toInt ≤ 2147483600) (hval1 : v5.toInt = r4.toInt - 1) (hval2 : v12.toInt = r4.toInt - 2) (hval3 : v19.toInt = r4.toInt - 3) (hval4 : v26.toInt = r4.toInt - 4) (hc27 : ¬ (v26 < 0)) (f31 : v26.toInt < 0 ∨ (v26.toInt < 64 ∧ r30.toInt = 1) ∨ (64 ≤ v26.toInt ∧ v26.toInt < 8192 ∧ r30.toInt = 2) ∨ (8192 ≤ v26.toInt ∧ v26.toInt < 1048576 ∧ r30.toInt = 3) ∨ (1048576 ≤ v26.toInt ∧ v26.toInt < 134217728 ∧ r30.toInt = 4) ∨ (134217728 ≤ v26.toInt ∧ r30.toInt = 5)) (hc32 : r4 < (v26 + r30)) (hval5 : v33.toInt = r4.toInt - 5) (hc34 : ¬ (v33 < 0)) (f38 : v33.toInt < 0 ∨ (v33.toInt < 64 ∧ r37.toInt = 1) ∨ (64 ≤ v33.toInt ∧ v33.toInt < 8192 ∧ r37.toInt = 2) ∨ (8192 ≤ v33.toInt ∧ v33.toInt < 1048576 ∧ r37.toInt = 3) ∨ (1048576 ≤ v33.toInt ∧ v33.toInt < 134217728 ∧ r37.toInt = 4) ∨ (134217728 ≤ v33.toInt ∧ r37.toInt = 5)) (hc39 : ¬ (r4 < (v33 + r37))) : v33 = (own_rm11_ret r4) := by
  apply Int32.toInt_inj.mp
  unfold own_rm11_ret
  have own0 : (0 : Int32).toInt = 0 := by decide
  have e64 : (64 : Int32).toInt = 64 := by decide
  have e8193 : (8193 : Int32).toInt = 8193 := by decide
  have e1048578 : (1048578 : Int32).toInt = 1048578 := by decide
  have e134217731 : (134217731 : Int32).toInt = 134217731 := by decide
  simp only [Int32.lt_iff_toInt_lt, own0] at hc27 hc32 hc34 hc39
  have bv26 : 1 ≤ r30.toInt ∧ r30.toInt ≤ 5 := by
    clear hc32 hc34 f38 hc39 hRb
    rcases f31 with hh | hh | hh | hh | hh | hh <;> omega
  rw [own_addx v26 r30 (by omega) (by omega)] at hc32
  have bv33 : 1 ≤ r37.toInt ∧ r37.toInt ≤ 5 := by
    clear hc27 f31 hc32 hc39 hRb
    rcases f38 with hh | hh | hh | hh | hh | hh <;> omega
  rw [own_addx v33 r37 (by omega) (by omega)] at hc39
  clear f38
  have p1 : 5 ≤ r30.toInt := by
    rcases f31 with hh | hh | hh | hh | hh | hh <;> omega
  have p3 : 134217728 ≤ v26.toInt := by
    rcases f31 with hh | hh | hh | hh | hh | hh <;> omega
  clear f31
  by_cases c64 : (64 : Int32) < r4
  · rw [if_pos c64]; rw [Int32.lt_iff_toInt_lt, e64] at c64
    by_cases c8193 : (8193 : Int32) < r4
    · rw [if_pos c8193]; rw [Int32.lt_iff_toInt_lt, e8193] at c8193
      by_cases c1048578 : (1048578 : Int32) < r4
      · rw [if_pos c1048578]; rw [Int32.lt_iff_toInt_lt, e1048578] at c1048578
        by_cases c134217731 : (134217731 : Int32) < r4
        · rw [if_pos c134217731]; rw [Int32.lt_iff_toInt_lt, e134217731] at c134217731
          rw [own_subx r4 (5 : Int32) 5 (by decide) (by omega)]; omega
        · rw [if_neg c134217731, own_subx r4 (4 : Int32) 4 (by decide) (by omega)]; rw [Int32.lt_iff_toInt_lt, e134217731] at c134217731; omega
      · rw [if_neg c1048578, own_subx r4 (3 : Int32) 3 (by decide) (by omega)]; rw [Int32.lt_iff_toInt_lt, e1048578] at c1048578; omega
    · rw [if_neg c8193, own_subx r4 (2 : Int32) 2 (by decide) (by omega)]; rw [Int32.lt_iff_toInt_lt, e8193] at c8193; omega
  · rw [if_neg c64, own_subx r4 (1 : Int32) 1 (by decide) (by omega)]; rw [Int32.lt_iff_toInt_lt, e64] at c64; omega
set_option maxRecDepth 65536 in
set_option maxHeartbeats 4000000 in
theorem own_t5n_13 (r4 : Int32) (v5 : Int32) (v12 : Int32) (v19 : Int32) (r23 : Int32) (v26 : Int32) (r30 : Int32) (hRb : -20000 ≤ r4.toInt ∧ r4.toInt ≤ 2147483600) (hval1 : v5.toInt = r4.toInt - 1) (hval2 : v12.toInt = r4.toInt - 2) (hval3 : v19.toInt = r4.toInt - 3) (hc20 : ¬ (v19 < 0)) (f24 : v19.toInt < 0 ∨ (v19.toInt < 64 ∧ r23.toInt = 1) ∨ (64 ≤ v19.toInt ∧ v19.toInt < 8192 ∧ r23.toInt = 2) ∨ (8192 ≤ v19.toInt ∧ v19.toInt < 1048576 ∧ r23.toInt = 3) ∨ (1048576 ≤ v19.toInt ∧ v19.toInt < 134217728 ∧ r23.toInt = 4) ∨ (134217728 ≤ v19.toInt ∧ r23.toInt = 5)) (hc25 : r4 < (v19 + r23)) (hval4 : v26.toInt = r4.toInt - 4) (hc27 : ¬ (v26 < 0)) (f31 : v26.toInt < 0 ∨ (v26.toInt < 64 ∧ r30.toInt = 1) ∨ (64 ≤ v26.toInt ∧ v26.toInt < 8192 ∧ r30.toInt = 2) ∨ (8192 ≤ v26.toInt ∧ v26.toInt < 1048576 ∧ r30.toInt = 3) ∨ (1048576 ≤ v26.toInt ∧ v26.toInt < 134217728 ∧ r30.toInt = 4) ∨ (134217728 ≤ v26.toInt ∧ r30.toInt = 5)) (hc32 : ¬ (r4 < (v26 + r30))) : v26 = (own_rm11_ret r4) := by
  apply Int32.toInt_inj.mp
  unfold own_rm11_ret
  have own0 : (0 : Int32).toInt = 0 := by decide
  have e64 : (64 : Int32).toInt = 64 := by decide
  have e8193 : (8193 : Int32).toInt = 8193 := by decide
  have e1048578 : (1048578 : Int32).toInt = 1048578 := by decide
  have e134217731 : (134217731 : Int32).toInt = 134217731 := by decide
  simp only [Int32.lt_iff_toInt_lt, own0] at hc20 hc25 hc27 hc32
  have bv19 : 1 ≤ r23.toInt ∧ r23.toInt ≤ 5 := by
    clear hc25 hc27 f31 hc32 hRb
    rcases f24 with hh | hh | hh | hh | hh | hh <;> omega
  rw [own_addx v19 r23 (by omega) (by omega)] at hc25
  have bv26 : 1 ≤ r30.toInt ∧ r30.toInt ≤ 5 := by
    clear hc20 f24 hc25 hc32 hRb
    rcases f31 with hh | hh | hh | hh | hh | hh <;> omega
  rw [own_addx v26 r30 (by omega) (by omega)] at hc32
  have p2 : r30.toInt ≤ 4 := by
    clear f24
    rcases f31 with hh | hh | hh | hh | hh | hh <;> omega
  have p4 : v26.toInt < 134217728 := by
    clear f24
    rcases f31 with hh | hh | hh | hh | hh | hh <;> omega
  clear f31
  have p1 : 4 ≤ r23.toInt := by
    rcases f24 with hh | hh | hh | hh | hh | hh <;> omega
  have p3 : 1048576 ≤ v19.toInt := by
    rcases f24 with hh | hh | hh | hh | hh | hh <;> omega
  clear f24
  by_cases c64 : (64 : Int32) < r4
  · rw [if_pos c64]; rw [Int32.lt_iff_toInt_lt, e64] at c64
    by_cases c8193 : (8193 : Int32) < r4
    · rw [if_pos c8193]; rw [Int32.lt_iff_toInt_lt, e8193] at c8193
      by_cases c1048578 : (1048578 : Int32) < r4
      · rw [if_pos c1048578]; rw [Int32.lt_iff_toInt_lt, e1048578] at c1048578
        by_cases c134217731 : (134217731 : Int32) < r4
        · rw [if_pos c134217731]; rw [Int32.lt_iff_toInt_lt, e134217731] at c134217731
          rw [own_subx r4 (5 : Int32) 5 (by decide) (by omega)]; omega
        · rw [if_neg c134217731, own_subx r4 (4 : Int32) 4 (by decide) (by omega)]; rw [Int32.lt_iff_toInt_lt, e134217731] at c134217731; omega
      · rw [if_neg c1048578, own_subx r4 (3 : Int32) 3 (by decide) (by omega)]; rw [Int32.lt_iff_toInt_lt, e1048578] at c1048578; omega
    · rw [if_neg c8193, own_subx r4 (2 : Int32) 2 (by decide) (by omega)]; rw [Int32.lt_iff_toInt_lt, e8193] at c8193; omega
  · rw [if_neg c64, own_subx r4 (1 : Int32) 1 (by decide) (by omega)]; rw [Int32.lt_iff_toInt_lt, e64] at c64; omega
set_option maxRecDepth 65536 in
set_option maxHeartbeats 4000000 in
theorem own_t5n_14 (r4 : Int32) (v5 : Int32) (v12 : Int32) (r16 : Int32) (v19 : Int32) (r23 : Int32) (hRb : -20000 ≤ r4.toInt ∧ r4.toInt ≤ 2147483600) (hval1 : v5.toInt = r4.toInt - 1) (hval2 : v12.toInt = r4.toInt - 2) (hc13 : ¬ (v12 < 0)) (f17 : v12.toInt < 0 ∨ (v12.toInt < 64 ∧ r16.toInt = 1) ∨ (64 ≤ v12.toInt ∧ v12.toInt < 8192 ∧ r16.toInt = 2) ∨ (8192 ≤ v12.toInt ∧ v12.toInt < 1048576 ∧ r16.toInt = 3) ∨ (1048576 ≤ v12.toInt ∧ v12.toInt < 134217728 ∧ r16.toInt = 4) ∨ (134217728 ≤ v12.toInt ∧ r16.toInt = 5)) (hc18 : r4 < (v12 + r16)) (hval3 : v19.toInt = r4.toInt - 3) (hc20 : ¬ (v19 < 0)) (f24 : v19.toInt < 0 ∨ (v19.toInt < 64 ∧ r23.toInt = 1) ∨ (64 ≤ v19.toInt ∧ v19.toInt < 8192 ∧ r23.toInt = 2) ∨ (8192 ≤ v19.toInt ∧ v19.toInt < 1048576 ∧ r23.toInt = 3) ∨ (1048576 ≤ v19.toInt ∧ v19.toInt < 134217728 ∧ r23.toInt = 4) ∨ (134217728 ≤ v19.toInt ∧ r23.toInt = 5)) (hc25 : ¬ (r4 < (v19 + r23))) : v19 = (own_rm11_ret r4) := by
  apply Int32.toInt_inj.mp
  unfold own_rm11_ret
  have own0 : (0 : Int32).toInt = 0 := by decide
  have e64 : (64 : Int32).toInt = 64 := by decide
  have e8193 : (8193 : Int32).toInt = 8193 := by decide
  have e1048578 : (1048578 : Int32).toInt = 1048578 := by decide
  have e134217731 : (134217731 : Int32).toInt = 134217731 := by decide
  simp only [Int32.lt_iff_toInt_lt, own0] at hc13 hc18 hc20 hc25
  have bv12 : 1 ≤ r16.toInt ∧ r16.toInt ≤ 5 := by
    clear hc18 hc20 f24 hc25 hRb
    rcases f17 with hh | hh | hh | hh | hh | hh <;> omega
  rw [own_addx v12 r16 (by omega) (by omega)] at hc18
  have bv19 : 1 ≤ r23.toInt ∧ r23.toInt ≤ 5 := by
    clear hc13 f17 hc18 hc25 hRb
    rcases f24 with hh | hh | hh | hh | hh | hh <;> omega
  rw [own_addx v19 r23 (by omega) (by omega)] at hc25
  have p2 : r23.toInt ≤ 3 := by
    clear f17
    rcases f24 with hh | hh | hh | hh | hh | hh <;> omega
  have p4 : v19.toInt < 1048576 := by
    clear f17
    rcases f24 with hh | hh | hh | hh | hh | hh <;> omega
  clear f24
  have p1 : 3 ≤ r16.toInt := by
    rcases f17 with hh | hh | hh | hh | hh | hh <;> omega
  have p3 : 8192 ≤ v12.toInt := by
    rcases f17 with hh | hh | hh | hh | hh | hh <;> omega
  clear f17
  by_cases c64 : (64 : Int32) < r4
  · rw [if_pos c64]; rw [Int32.lt_iff_toInt_lt, e64] at c64
    by_cases c8193 : (8193 : Int32) < r4
    · rw [if_pos c8193]; rw [Int32.lt_iff_toInt_lt, e8193] at c8193
      by_cases c1048578 : (1048578 : Int32) < r4
      · rw [if_pos c1048578]; rw [Int32.lt_iff_toInt_lt, e1048578] at c1048578
        by_cases c134217731 : (134217731 : Int32) < r4
        · rw [if_pos c134217731]; rw [Int32.lt_iff_toInt_lt, e134217731] at c134217731
          rw [own_subx r4 (5 : Int32) 5 (by decide) (by omega)]; omega
        · rw [if_neg c134217731, own_subx r4 (4 : Int32) 4 (by decide) (by omega)]; rw [Int32.lt_iff_toInt_lt, e134217731] at c134217731; omega
      · rw [if_neg c1048578, own_subx r4 (3 : Int32) 3 (by decide) (by omega)]; rw [Int32.lt_iff_toInt_lt, e1048578] at c1048578; omega
    · rw [if_neg c8193, own_subx r4 (2 : Int32) 2 (by decide) (by omega)]; rw [Int32.lt_iff_toInt_lt, e8193] at c8193; omega
  · rw [if_neg c64, own_subx r4 (1 : Int32) 1 (by decide) (by omega)]; rw [Int32.lt_iff_toInt_lt, e64] at c64; omega
set_option maxRecDepth 65536 in
set_option maxHeartbeats 4000000 in
theorem own_t5n_15 (r4 : Int32) (v5 : Int32) (r9 : Int32) (v12 : Int32) (r16 : Int32) (hRb : -20000 ≤ r4.toInt ∧ r4.toInt ≤ 2147483600) (hval1 : v5.toInt = r4.toInt - 1) (hc6 : ¬ (v5 < 0)) (f10 : v5.toInt < 0 ∨ (v5.toInt < 64 ∧ r9.toInt = 1) ∨ (64 ≤ v5.toInt ∧ v5.toInt < 8192 ∧ r9.toInt = 2) ∨ (8192 ≤ v5.toInt ∧ v5.toInt < 1048576 ∧ r9.toInt = 3) ∨ (1048576 ≤ v5.toInt ∧ v5.toInt < 134217728 ∧ r9.toInt = 4) ∨ (134217728 ≤ v5.toInt ∧ r9.toInt = 5)) (hc11 : r4 < (v5 + r9)) (hval2 : v12.toInt = r4.toInt - 2) (hc13 : ¬ (v12 < 0)) (f17 : v12.toInt < 0 ∨ (v12.toInt < 64 ∧ r16.toInt = 1) ∨ (64 ≤ v12.toInt ∧ v12.toInt < 8192 ∧ r16.toInt = 2) ∨ (8192 ≤ v12.toInt ∧ v12.toInt < 1048576 ∧ r16.toInt = 3) ∨ (1048576 ≤ v12.toInt ∧ v12.toInt < 134217728 ∧ r16.toInt = 4) ∨ (134217728 ≤ v12.toInt ∧ r16.toInt = 5)) (hc18 : ¬ (r4 < (v12 + r16))) : v12 = (own_rm11_ret r4) := by
  apply Int32.toInt_inj.mp
  unfold own_rm11_ret
  have own0 : (0 : Int32).toInt = 0 := by decide
  have e64 : (64 : Int32).toInt = 64 := by decide
  have e8193 : (8193 : Int32).toInt = 8193 := by decide
  have e1048578 : (1048578 : Int32).toInt = 1048578 := by decide
  have e134217731 : (134217731 : Int32).toInt = 134217731 := by decide
  simp only [Int32.lt_iff_toInt_lt, own0] at hc6 hc11 hc13 hc18
  have bv5 : 1 ≤ r9.toInt ∧ r9.toInt ≤ 5 := by
    clear hc11 hc13 f17 hc18 hRb
    rcases f10 with hh | hh | hh | hh | hh | hh <;> omega
  rw [own_addx v5 r9 (by omega) (by omega)] at hc11
  have bv12 : 1 ≤ r16.toInt ∧ r16.toInt ≤ 5 := by
    clear hc6 f10 hc11 hc18 hRb
    rcases f17 with hh | hh | hh | hh | hh | hh <;> omega
  rw [own_addx v12 r16 (by omega) (by omega)] at hc18
  have p2 : r16.toInt ≤ 2 := by
    clear f10
    rcases f17 with hh | hh | hh | hh | hh | hh <;> omega
  have p4 : v12.toInt < 8192 := by
    clear f10
    rcases f17 with hh | hh | hh | hh | hh | hh <;> omega
  clear f17
  have p1 : 2 ≤ r9.toInt := by
    rcases f10 with hh | hh | hh | hh | hh | hh <;> omega
  have p3 : 64 ≤ v5.toInt := by
    rcases f10 with hh | hh | hh | hh | hh | hh <;> omega
  clear f10
  by_cases c64 : (64 : Int32) < r4
  · rw [if_pos c64]; rw [Int32.lt_iff_toInt_lt, e64] at c64
    by_cases c8193 : (8193 : Int32) < r4
    · rw [if_pos c8193]; rw [Int32.lt_iff_toInt_lt, e8193] at c8193
      by_cases c1048578 : (1048578 : Int32) < r4
      · rw [if_pos c1048578]; rw [Int32.lt_iff_toInt_lt, e1048578] at c1048578
        by_cases c134217731 : (134217731 : Int32) < r4
        · rw [if_pos c134217731]; rw [Int32.lt_iff_toInt_lt, e134217731] at c134217731
          rw [own_subx r4 (5 : Int32) 5 (by decide) (by omega)]; omega
        · rw [if_neg c134217731, own_subx r4 (4 : Int32) 4 (by decide) (by omega)]; rw [Int32.lt_iff_toInt_lt, e134217731] at c134217731; omega
      · rw [if_neg c1048578, own_subx r4 (3 : Int32) 3 (by decide) (by omega)]; rw [Int32.lt_iff_toInt_lt, e1048578] at c1048578; omega
    · rw [if_neg c8193, own_subx r4 (2 : Int32) 2 (by decide) (by omega)]; rw [Int32.lt_iff_toInt_lt, e8193] at c8193; omega
  · rw [if_neg c64, own_subx r4 (1 : Int32) 1 (by decide) (by omega)]; rw [Int32.lt_iff_toInt_lt, e64] at c64; omega
set_option maxRecDepth 65536 in
set_option maxHeartbeats 4000000 in
theorem own_t5n_16 (r4 : Int32) (v5 : Int32) (r9 : Int32) (hRb : -20000 ≤ r4.toInt ∧ r4.toInt ≤ 2147483600) (hval1 : v5.toInt = r4.toInt - 1) (hc6 : ¬ (v5 < 0)) (f10 : v5.toInt < 0 ∨ (v5.toInt < 64 ∧ r9.toInt = 1) ∨ (64 ≤ v5.toInt ∧ v5.toInt < 8192 ∧ r9.toInt = 2) ∨ (8192 ≤ v5.toInt ∧ v5.toInt < 1048576 ∧ r9.toInt = 3) ∨ (1048576 ≤ v5.toInt ∧ v5.toInt < 134217728 ∧ r9.toInt = 4) ∨ (134217728 ≤ v5.toInt ∧ r9.toInt = 5)) (hc11 : ¬ (r4 < (v5 + r9))) : v5 = (own_rm11_ret r4) := by
  apply Int32.toInt_inj.mp
  unfold own_rm11_ret
  have own0 : (0 : Int32).toInt = 0 := by decide
  have e64 : (64 : Int32).toInt = 64 := by decide
  have e8193 : (8193 : Int32).toInt = 8193 := by decide
  have e1048578 : (1048578 : Int32).toInt = 1048578 := by decide
  have e134217731 : (134217731 : Int32).toInt = 134217731 := by decide
  simp only [Int32.lt_iff_toInt_lt, own0] at hc6 hc11
  have bv5 : 1 ≤ r9.toInt ∧ r9.toInt ≤ 5 := by
    clear hc11 hRb
    rcases f10 with hh | hh | hh | hh | hh | hh <;> omega
  rw [own_addx v5 r9 (by omega) (by omega)] at hc11
  have p2 : r9.toInt ≤ 1 := by
    rcases f10 with hh | hh | hh | hh | hh | hh <;> omega
  have p4 : v5.toInt < 64 := by
    rcases f10 with hh | hh | hh | hh | hh | hh <;> omega
  clear f10
  by_cases c64 : (64 : Int32) < r4
  · rw [if_pos c64]; rw [Int32.lt_iff_toInt_lt, e64] at c64
    by_cases c8193 : (8193 : Int32) < r4
    · rw [if_pos c8193]; rw [Int32.lt_iff_toInt_lt, e8193] at c8193
      by_cases c1048578 : (1048578 : Int32) < r4
      · rw [if_pos c1048578]; rw [Int32.lt_iff_toInt_lt, e1048578] at c1048578
        by_cases c134217731 : (134217731 : Int32) < r4
        · rw [if_pos c134217731]; rw [Int32.lt_iff_toInt_lt, e134217731] at c134217731
          rw [own_subx r4 (5 : Int32) 5 (by decide) (by omega)]; omega
        · rw [if_neg c134217731, own_subx r4 (4 : Int32) 4 (by decide) (by omega)]; rw [Int32.lt_iff_toInt_lt, e134217731] at c134217731; omega
      · rw [if_neg c1048578, own_subx r4 (3 : Int32) 3 (by decide) (by omega)]; rw [Int32.lt_iff_toInt_lt, e1048578] at c1048578; omega
    · rw [if_neg c8193, own_subx r4 (2 : Int32) 2 (by decide) (by omega)]; rw [Int32.lt_iff_toInt_lt, e8193] at c8193; omega
  · rw [if_neg c64, own_subx r4 (1 : Int32) 1 (by decide) (by omega)]; rw [Int32.lt_iff_toInt_lt, e64] at c64; omega
def own_Q5n (Z : State) (a_1 : Addr) (w_largestRecord_a_1 : Int32) (h0 : Heap) (n0 : Nat) (v : Option Value) (h : Heap) (L : List Loc) : Prop := ∃ (r_ : Int32), v = some (.int r_) ∧ Fr n0 L ∧ r_ = (own_rm11_ret (((w_largestRecord_a_1 - (82 : Int32)) - (1 : Int32)) - (1 : Int32))) ∧ h = h0
set_option maxRecDepth 65536 in
set_option maxHeartbeats 40000000 in
theorem own_rm5n (l : Launch) (Z : State) (a0 : Array Value) (hw : ∀ d ∈ tables_1, d.before a0 Z = true) (ws : List Jvm.Cond) (a_1 : Addr) (w_largestRecord_a_1 : Int32) (h0 : Heap) (n0 : Nat) (Z0 : n0 ≤ h0.size) (pr_E_a_1 : Exa Z h0 a_1 "com/example/fencepost/fencepost/connector/RecordLimit") (pr_F_a_1_largestRecord : Fld Z h0 a_1 "com/example/fencepost/fencepost/connector/RecordLimit" "largestRecord" "I" (.int w_largestRecord_a_1)) (hR : -20000 ≤ (((w_largestRecord_a_1 - (82 : Int32)) - (1 : Int32)) - (1 : Int32)).toInt ∧ (((w_largestRecord_a_1 - (82 : Int32)) - (1 : Int32)) - (1 : Int32)).toInt ≤ 2147483600) :
    MetFree l (⟨"com/example/fencepost/fencepost/connector/RecordLimit", "largestValue", "([B)I"⟩ : MethodName) (head1 (Jvm.Cond.code (⟨"com/example/fencepost/fencepost/connector/RecordLimit", "largestValue", "([B)I"⟩ : MethodName) prog_16_method_4_code 4 (some .int) :: ws) ({ frames := 4, cells := 0, slots := 0, locals := 54 } : Room)) (fun a U => a = #[(.ref a_1), .null] ∧ Z.Warmed39 U.vm ∧ U.heap = h0) (fun _ _ _ _ _ => True) (fun _ U o U' => ∃ v L, o = .returned v ∧ own_Q5n Z a_1 w_largestRecord_a_1 h0 n0 v U'.heap L ∧ FrameEnd U o U' L ({ frames := 4, cells := 0, slots := 0, locals := 54 } : Room).cells ({ frames := 4, cells := 0, slots := 0, locals := 54 } : Room).slots) := by
  refine MetFree.of_bodySF (plainFor_of_name own_pn1) hisR ?_
  intro p e s m args below meth c s₁ Bd hml0 hP hK
  obtain ⟨rfl, hZ, hh⟩ := hP
  have hx := Bd.exec
  have hby := Bd.bytes
  have hml : c.maxLocals = 4 := hml0
  have hown : s.vm.findClass "com/example/fencepost/fencepost/connector/RecordLimit" = some m.cls := findClass_of_methodNamed Bd.named
  have hnm := (name_of_methodNamed Bd.named Bd.method).1
  have X0 : Stand p l e ({ frames := 4, cells := 0, slots := 0, locals := 54 } : Room) s m #[(.ref a_1), .null] below meth c s₁ [] 0 0 := Stand.of_body Bd
  have e0 : s₁.heap = h0 := by rw [← hh, Bd.state]; rfl
  have N0 := Fr.nil n0
  have z0 : n0 ≤ h0.size := Z0
  have z1 := own_lt pr_E_a_1.lt
  have z2 := own_lt pr_F_a_1_largestRecord.lt
  show own_Go p.tables e below (fun t o => t.status = .running ∧ Ended t below o ∧ ∃ v L, o = .returned v ∧ own_Q5n Z a_1 w_largestRecord_a_1 h0 n0 v t.heap L ∧ FrameEnd s o t L ({ frames := 4, cells := 0, slots := 0, locals := 54 } : Room).cells ({ frames := 4, cells := 0, slots := 0, locals := 54 } : Room).slots) s₁ (entryFrame m #[(.ref a_1), .null] 4)
  rw [own_ef_own_rm5n m a_1]
  show own_Go _ _ _ _ s₁ (mkF m 0 #[.val (.ref a_1), .val .null, .unset, .unset] [])
  refine own_go (fun _ k => XS.aloadN X0.here hx rfl (hb hby own_d5_0) rfl rfl k) ?_
  show own_Go _ _ _ _ s₁ (mkF m 1 #[.val (.ref a_1), .val .null, .unset, .unset] [(.ref a_1)])
  refine own_go (fun _ k => XS.aloadN X0.here hx rfl (hb hby own_d5_1) rfl rfl k) ?_
  show own_Go _ _ _ _ s₁ (mkF m 2 #[.val (.ref a_1), .val .null, .unset, .unset] [.null, (.ref a_1)])
  obtain ⟨cq3, q3, q3'⟩ := (id pr_E_a_1).cell
  obtain ⟨_, _, ⟨T3, L3, k3, n3⟩, -, X3, ⟨Lc3, hQ3, l3, y3, z3⟩, st3⟩ := X0.privateBack hx (y := (⟨"com/example/fencepost/fencepost/connector/RecordLimit", "room", "([B)I"⟩ : MethodName)) hown (mvT hZ (hw _ (List.mem_of_getElem? (i := 38) rfl))) (mvT hZ (hw _ (List.mem_of_getElem? (i := 39) rfl))) (own_selfsel hZ (hw _ (List.mem_of_getElem? (i := 7) rfl)) (hw _ (List.mem_of_getElem? (i := 39) rfl)) (hw _ (List.mem_of_getElem? (i := 40) rfl)) (by decide)) (Cond.privateMethod_at (mvP hZ (hw _ (List.mem_of_getElem? (i := 40) rfl)) (args := #[]))) (mvT hZ (hw _ (List.mem_of_getElem? (i := 41) rfl))) (by decide) (backOf (W := 0) (own_rm6n l Z a0 hw [] a_1 w_largestRecord_a_1 h0 n0 (by omega) pr_F_a_1_largestRecord) hZ (hw _ (List.mem_of_getElem? (i := 41) rfl)) (hw _ (List.mem_of_getElem? (i := 8) rfl)) (by decide) (by decide)) (g := (mkF m 2 #[.val (.ref a_1), .val .null, .unset, .unset] [.null, (.ref a_1)])) rfl (by rw [hml]; rfl) (Steps.refl _) (a := a_1) (by rw [e0]; exact q3) q3' (argsL := [.null]) (rest := []) (lenOf own_pd2 rfl) rfl (by show 2 * 0 + _ ≤ _; exact Nat.le_of_eq rfl) (hb hby own_d5_2) (fun _ _ => ⟨rfl, e0, (by decide : 0 + 0 ≤ _), (by decide : 0 + 0 ≤ _)⟩)
  dsimp only [Pt.U, Pt.locs, Pt.cells, Pt.slots] at X3 l3 y3 z3 st3 hQ3
  have y3 : k3 = 0 := y3
  have z3 : n3 = 0 := z3
  obtain ⟨r4, rfl, N3q, hr_r4, e3⟩ := hQ3
  have N3 : Fr n0 L3 := by rw [l3]; exact Fr.app N0 N3q
  refine own_go (fun _ k => st3.trans k) ?_
  show own_Go _ _ _ _ T3 (mkF m 5 #[.val (.ref a_1), .val .null, .unset, .unset] [(.int r4)])
  refine own_go (fun _ k => XS.istoreN X3.here hx rfl (hb hby own_d5_5) rfl (l' := #[.val (.ref a_1), .val .null, .val (.int r4), .unset]) rfl k) ?_
  show own_Go _ _ _ _ T3 (mkF m 6 #[.val (.ref a_1), .val .null, .val (.int r4), .unset] [])
  have hRb : -20000 ≤ r4.toInt ∧ r4.toInt ≤ 2147483600 := own_t5n_0 w_largestRecord_a_1 r4 hR hr_r4
  refine own_go (fun _ k => XS.iloadN X3.here hx rfl (hb hby own_d5_6) rfl k) ?_
  show own_Go _ _ _ _ T3 (mkF m 7 #[.val (.ref a_1), .val .null, .val (.int r4), .unset] [(.int r4)])
  refine own_go (fun _ k => XS.iconst X3.here hx rfl (hb hby own_d5_7) k) ?_
  show own_Go _ _ _ _ T3 (mkF m 8 #[.val (.ref a_1), .val .null, .val (.int r4), .unset] [(.int (1 : Int32)), (.int r4)])
  refine own_go (fun _ k => XS.isub X3.here hx rfl (hb hby own_d5_8) rfl k) ?_
  show own_Go _ _ _ _ T3 (mkF m 9 #[.val (.ref a_1), .val .null, .val (.int r4), .unset] [(.int (r4 - (1 : Int32)))])
  refine own_go (fun _ k => XS.istoreN X3.here hx rfl (hb hby own_d5_9) rfl (l' := #[.val (.ref a_1), .val .null, .val (.int r4), .val (.int (r4 - (1 : Int32)))]) rfl k) ?_
  show own_Go _ _ _ _ T3 (mkF m 10 #[.val (.ref a_1), .val .null, .val (.int r4), .val (.int (r4 - (1 : Int32)))] [])
  generalize hdv5 : (r4 - (1 : Int32)) = v5
  show own_Go _ _ _ _ T3 (mkF m 10 #[.val (.ref a_1), .val .null, .val (.int r4), .val (.int v5)] [])
  have hval1 : v5.toInt = r4.toInt - 1 := own_t5n_1 r4 v5 hRb hdv5
  refine own_go (fun _ k => XS.iloadN X3.here hx rfl (hb hby own_d5_10) rfl k) ?_
  show own_Go _ _ _ _ T3 (mkF m 11 #[.val (.ref a_1), .val .null, .val (.int r4), .val (.int v5)] [(.int v5)])
  by_cases hc6 : v5 < 0
  · refine own_go (fun _ k => XS.ifYes X3.here hx rfl (pc0 := 11) (pc' := 30) rfl (hb hby own_d5_11) rfl (Jvm.Free.XT.i0_lt_t hc6) (by decide) (by decide) k) ?_
    show own_Go _ _ _ _ T3 (mkF m 30 #[.val (.ref a_1), .val .null, .val (.int r4), .val (.int v5)] [])
    refine own_go (fun _ k => XS.iloadN X3.here hx rfl (hb hby own_d5_30) rfl k) ?_
    show own_Go _ _ _ _ T3 (mkF m 31 #[.val (.ref a_1), .val .null, .val (.int r4), .val (.int v5)] [(.int v5)])
    obtain ⟨fs, hr, hrun, hended, hW, hsame⟩ := X3.leave (v := some (.int v5)) (fun h => by rw [Bd.returns] at h; cases h)
    refine ⟨_, _, retOut X3 hx Bd.returns rfl (Or.inl ⟨rfl, Or.inl rfl, _, rfl⟩) (hb hby own_d5_31) hr, hrun, hended, _, _, rfl, ?_, ⟨_, rfl⟩, hW, hsame.mono (by rw [y3]; decide) (by rw [z3]; decide)⟩
    show own_Q5n Z a_1 w_largestRecord_a_1 h0 n0 _ T3.heap _
    rw [e3]
    exact ⟨_, rfl, N3, (by have e := own_t5n_2 r4 v5 hRb hval1 hc6; rw [e, hr_r4]), rfl⟩
  · refine own_go (fun _ k => XS.ifNo X3.here hx rfl (hb hby own_d5_11) rfl (Jvm.Free.XT.i0_lt_f hc6) k) ?_
    show own_Go _ _ _ _ T3 (mkF m 14 #[.val (.ref a_1), .val .null, .val (.int r4), .val (.int v5)] [])
    refine own_go (fun _ k => XS.iloadN X3.here hx rfl (hb hby own_d5_14) rfl k) ?_
    show own_Go _ _ _ _ T3 (mkF m 15 #[.val (.ref a_1), .val .null, .val (.int r4), .val (.int v5)] [(.int v5)])
    refine own_go (fun _ k => XS.iloadN X3.here hx rfl (hb hby own_d5_15) rfl k) ?_
    show own_Go _ _ _ _ T3 (mkF m 16 #[.val (.ref a_1), .val .null, .val (.int r4), .val (.int v5)] [(.int v5), (.int v5)])
    obtain ⟨_, _, ⟨T8, L8, k8, n8⟩, -, X8, ⟨Lc8, hQ8, l8, y8, z8⟩, st8⟩ := Jvm.LawKit.callS X3 hx (y := (⟨"com/example/fencepost/fencepost/connector/RecordLimit", "varintSize", "(I)I"⟩ : MethodName)) hown (mvT hZ (hw _ (List.mem_of_getElem? (i := 45) rfl))) (mvT hZ (hw _ (List.mem_of_getElem? (i := 46) rfl))) (mvT hZ (hw _ (List.mem_of_getElem? (i := 8) rfl))) (mvT hZ (hw _ (List.mem_of_getElem? (i := 47) rfl))) (by decide) (backOf (W := 1) (own_rm8 l Z a0 hw [] v5  h0 n0 (by omega) ) hZ (hw _ (List.mem_of_getElem? (i := 47) rfl)) (hw _ (List.mem_of_getElem? (i := 8) rfl)) (by decide) (by decide)) (g := (mkF m 16 #[.val (.ref a_1), .val .null, .val (.int r4), .val (.int v5)] [(.int v5), (.int v5)])) rfl (by rw [hml]; rfl) (argsL := [(.int v5)]) (rest := [(.int v5)]) (lenOf own_pd0 rfl) rfl (by show 2 * 0 + _ ≤ _; exact Nat.le_of_eq rfl) (hb hby own_d5_16) (fun _ _ => ⟨rfl, e3, (by show k3 + _ ≤ _; rw [y3]; decide), (by show n3 + _ ≤ _; rw [z3]; decide)⟩)
    dsimp only [Pt.U, Pt.locs, Pt.cells, Pt.slots] at X8 l8 y8 z8 st8 hQ8
    have y8 : k8 = 0 := own_addeq y8 (congrArg (fun q => q) y3) rfl
    have z8 : n8 = 0 := own_addeq z8 (congrArg (fun q => q) z3) rfl
    obtain ⟨r9, rfl, N8q, e8, f10⟩ := hQ8
    have N8 : Fr n0 L8 := by rw [l8]; exact Fr.app N3 N8q
    refine own_go (fun _ k => st8 _ k) ?_
    show own_Go _ _ _ _ T8 (mkF m 19 #[.val (.ref a_1), .val .null, .val (.int r4), .val (.int v5)] [(.int r9), (.int v5)])
    refine own_go (fun _ k => XS.iadd X8.here hx rfl (hb hby own_d5_19) rfl k) ?_
    show own_Go _ _ _ _ T8 (mkF m 20 #[.val (.ref a_1), .val .null, .val (.int r4), .val (.int v5)] [(.int (v5 + r9))])
    refine own_go (fun _ k => XS.iloadN X8.here hx rfl (hb hby own_d5_20) rfl k) ?_
    show own_Go _ _ _ _ T8 (mkF m 21 #[.val (.ref a_1), .val .null, .val (.int r4), .val (.int v5)] [(.int r4), (.int (v5 + r9))])
    by_cases hc11 : r4 < (v5 + r9)
    · refine own_go (fun _ k => XS.icmpNo X8.here hx rfl (hb hby own_d5_21) rfl (Jvm.Free.XT.ii_le_f hc11) k) ?_
      show own_Go _ _ _ _ T8 (mkF m 24 #[.val (.ref a_1), .val .null, .val (.int r4), .val (.int v5)] [])
      refine own_go (fun _ k => XS.iinc X8.here hx rfl (hb hby own_d5_24) rfl (l' := #[.val (.ref a_1), .val .null, .val (.int r4), .val (.int (v5 + (-1 : Int32)))]) rfl k) ?_
      show own_Go _ _ _ _ T8 (mkF m 27 #[.val (.ref a_1), .val .null, .val (.int r4), .val (.int (v5 + (-1 : Int32)))] [])
      generalize hdv12 : (v5 + (-1 : Int32)) = v12
      show own_Go _ _ _ _ T8 (mkF m 27 #[.val (.ref a_1), .val .null, .val (.int r4), .val (.int v12)] [])
      refine own_go (fun _ k => XS.goto X8.here hx rfl (pc0 := 27) (pc' := 10) rfl (hb hby own_d5_27) (by decide) (by decide) k) ?_
      show own_Go _ _ _ _ T8 (mkF m 10 #[.val (.ref a_1), .val .null, .val (.int r4), .val (.int v12)] [])
      have hval2 : v12.toInt = r4.toInt - 2 := own_t5n_3 r4 v5 v12 hRb hval1 hdv12
      refine own_go (fun _ k => XS.iloadN X8.here hx rfl (hb hby own_d5_10) rfl k) ?_
      show own_Go _ _ _ _ T8 (mkF m 11 #[.val (.ref a_1), .val .null, .val (.int r4), .val (.int v12)] [(.int v12)])
      by_cases hc13 : v12 < 0
      · refine own_go (fun _ k => XS.ifYes X8.here hx rfl (pc0 := 11) (pc' := 30) rfl (hb hby own_d5_11) rfl (Jvm.Free.XT.i0_lt_t hc13) (by decide) (by decide) k) ?_
        show own_Go _ _ _ _ T8 (mkF m 30 #[.val (.ref a_1), .val .null, .val (.int r4), .val (.int v12)] [])
        refine own_go (fun _ k => XS.iloadN X8.here hx rfl (hb hby own_d5_30) rfl k) ?_
        show own_Go _ _ _ _ T8 (mkF m 31 #[.val (.ref a_1), .val .null, .val (.int r4), .val (.int v12)] [(.int v12)])
        obtain ⟨fs, hr, hrun, hended, hW, hsame⟩ := X8.leave (v := some (.int v12)) (fun h => by rw [Bd.returns] at h; cases h)
        refine ⟨_, _, retOut X8 hx Bd.returns rfl (Or.inl ⟨rfl, Or.inl rfl, _, rfl⟩) (hb hby own_d5_31) hr, hrun, hended, _, _, rfl, ?_, ⟨_, rfl⟩, hW, hsame.mono (by rw [y8]; decide) (by rw [z8]; decide)⟩
        show own_Q5n Z a_1 w_largestRecord_a_1 h0 n0 _ T8.heap _
        rw [e8]
        exact ⟨_, rfl, N8, (by have e := own_t5n_4 r4 v5 r9 v12 hRb hval1 hc6 f10 hc11 hval2 hc13; rw [e, hr_r4]), rfl⟩
      · refine own_go (fun _ k => XS.ifNo X8.here hx rfl (hb hby own_d5_11) rfl (Jvm.Free.XT.i0_lt_f hc13) k) ?_
        show own_Go _ _ _ _ T8 (mkF m 14 #[.val (.ref a_1), .val .null, .val (.int r4), .val (.int v12)] [])
        refine own_go (fun _ k => XS.iloadN X8.here hx rfl (hb hby own_d5_14) rfl k) ?_
        show own_Go _ _ _ _ T8 (mkF m 15 #[.val (.ref a_1), .val .null, .val (.int r4), .val (.int v12)] [(.int v12)])
        refine own_go (fun _ k => XS.iloadN X8.here hx rfl (hb hby own_d5_15) rfl k) ?_
        show own_Go _ _ _ _ T8 (mkF m 16 #[.val (.ref a_1), .val .null, .val (.int r4), .val (.int v12)] [(.int v12), (.int v12)])
        obtain ⟨_, _, ⟨T15, L15, k15, n15⟩, -, X15, ⟨Lc15, hQ15, l15, y15, z15⟩, st15⟩ := Jvm.LawKit.callS X8 hx (y := (⟨"com/example/fencepost/fencepost/connector/RecordLimit", "varintSize", "(I)I"⟩ : MethodName)) hown (mvT hZ (hw _ (List.mem_of_getElem? (i := 45) rfl))) (mvT hZ (hw _ (List.mem_of_getElem? (i := 46) rfl))) (mvT hZ (hw _ (List.mem_of_getElem? (i := 8) rfl))) (mvT hZ (hw _ (List.mem_of_getElem? (i := 47) rfl))) (by decide) (backOf (W := 1) (own_rm8 l Z a0 hw [] v12  h0 n0 (by omega) ) hZ (hw _ (List.mem_of_getElem? (i := 47) rfl)) (hw _ (List.mem_of_getElem? (i := 8) rfl)) (by decide) (by decide)) (g := (mkF m 16 #[.val (.ref a_1), .val .null, .val (.int r4), .val (.int v12)] [(.int v12), (.int v12)])) rfl (by rw [hml]; rfl) (argsL := [(.int v12)]) (rest := [(.int v12)]) (lenOf own_pd0 rfl) rfl (by show 2 * 0 + _ ≤ _; exact Nat.le_of_eq rfl) (hb hby own_d5_16) (fun _ _ => ⟨rfl, e8, (by show k8 + _ ≤ _; rw [y8]; decide), (by show n8 + _ ≤ _; rw [z8]; decide)⟩)
        dsimp only [Pt.U, Pt.locs, Pt.cells, Pt.slots] at X15 l15 y15 z15 st15 hQ15
        have y15 : k15 = 0 := own_addeq y15 (congrArg (fun q => q) y8) rfl
        have z15 : n15 = 0 := own_addeq z15 (congrArg (fun q => q) z8) rfl
        obtain ⟨r16, rfl, N15q, e15, f17⟩ := hQ15
        have N15 : Fr n0 L15 := by rw [l15]; exact Fr.app N8 N15q
        refine own_go (fun _ k => st15 _ k) ?_
        show own_Go _ _ _ _ T15 (mkF m 19 #[.val (.ref a_1), .val .null, .val (.int r4), .val (.int v12)] [(.int r16), (.int v12)])
        refine own_go (fun _ k => XS.iadd X15.here hx rfl (hb hby own_d5_19) rfl k) ?_
        show own_Go _ _ _ _ T15 (mkF m 20 #[.val (.ref a_1), .val .null, .val (.int r4), .val (.int v12)] [(.int (v12 + r16))])
        refine own_go (fun _ k => XS.iloadN X15.here hx rfl (hb hby own_d5_20) rfl k) ?_
        show own_Go _ _ _ _ T15 (mkF m 21 #[.val (.ref a_1), .val .null, .val (.int r4), .val (.int v12)] [(.int r4), (.int (v12 + r16))])
        by_cases hc18 : r4 < (v12 + r16)
        · refine own_go (fun _ k => XS.icmpNo X15.here hx rfl (hb hby own_d5_21) rfl (Jvm.Free.XT.ii_le_f hc18) k) ?_
          show own_Go _ _ _ _ T15 (mkF m 24 #[.val (.ref a_1), .val .null, .val (.int r4), .val (.int v12)] [])
          refine own_go (fun _ k => XS.iinc X15.here hx rfl (hb hby own_d5_24) rfl (l' := #[.val (.ref a_1), .val .null, .val (.int r4), .val (.int (v12 + (-1 : Int32)))]) rfl k) ?_
          show own_Go _ _ _ _ T15 (mkF m 27 #[.val (.ref a_1), .val .null, .val (.int r4), .val (.int (v12 + (-1 : Int32)))] [])
          generalize hdv19 : (v12 + (-1 : Int32)) = v19
          show own_Go _ _ _ _ T15 (mkF m 27 #[.val (.ref a_1), .val .null, .val (.int r4), .val (.int v19)] [])
          refine own_go (fun _ k => XS.goto X15.here hx rfl (pc0 := 27) (pc' := 10) rfl (hb hby own_d5_27) (by decide) (by decide) k) ?_
          show own_Go _ _ _ _ T15 (mkF m 10 #[.val (.ref a_1), .val .null, .val (.int r4), .val (.int v19)] [])
          have hval3 : v19.toInt = r4.toInt - 3 := own_t5n_5 r4 v12 v19 hRb hval2 hdv19
          refine own_go (fun _ k => XS.iloadN X15.here hx rfl (hb hby own_d5_10) rfl k) ?_
          show own_Go _ _ _ _ T15 (mkF m 11 #[.val (.ref a_1), .val .null, .val (.int r4), .val (.int v19)] [(.int v19)])
          by_cases hc20 : v19 < 0
          · refine own_go (fun _ k => XS.ifYes X15.here hx rfl (pc0 := 11) (pc' := 30) rfl (hb hby own_d5_11) rfl (Jvm.Free.XT.i0_lt_t hc20) (by decide) (by decide) k) ?_
            show own_Go _ _ _ _ T15 (mkF m 30 #[.val (.ref a_1), .val .null, .val (.int r4), .val (.int v19)] [])
            refine own_go (fun _ k => XS.iloadN X15.here hx rfl (hb hby own_d5_30) rfl k) ?_
            show own_Go _ _ _ _ T15 (mkF m 31 #[.val (.ref a_1), .val .null, .val (.int r4), .val (.int v19)] [(.int v19)])
            obtain ⟨fs, hr, hrun, hended, hW, hsame⟩ := X15.leave (v := some (.int v19)) (fun h => by rw [Bd.returns] at h; cases h)
            refine ⟨_, _, retOut X15 hx Bd.returns rfl (Or.inl ⟨rfl, Or.inl rfl, _, rfl⟩) (hb hby own_d5_31) hr, hrun, hended, _, _, rfl, ?_, ⟨_, rfl⟩, hW, hsame.mono (by rw [y15]; decide) (by rw [z15]; decide)⟩
            show own_Q5n Z a_1 w_largestRecord_a_1 h0 n0 _ T15.heap _
            rw [e15]
            exact ⟨_, rfl, N15, (by have e := own_t5n_6 r4 v5 r9 v12 r16 v19 hRb hval1 f10 hc11 hval2 hc13 f17 hc18 hval3 hc20; rw [e, hr_r4]), rfl⟩
          · refine own_go (fun _ k => XS.ifNo X15.here hx rfl (hb hby own_d5_11) rfl (Jvm.Free.XT.i0_lt_f hc20) k) ?_
            show own_Go _ _ _ _ T15 (mkF m 14 #[.val (.ref a_1), .val .null, .val (.int r4), .val (.int v19)] [])
            refine own_go (fun _ k => XS.iloadN X15.here hx rfl (hb hby own_d5_14) rfl k) ?_
            show own_Go _ _ _ _ T15 (mkF m 15 #[.val (.ref a_1), .val .null, .val (.int r4), .val (.int v19)] [(.int v19)])
            refine own_go (fun _ k => XS.iloadN X15.here hx rfl (hb hby own_d5_15) rfl k) ?_
            show own_Go _ _ _ _ T15 (mkF m 16 #[.val (.ref a_1), .val .null, .val (.int r4), .val (.int v19)] [(.int v19), (.int v19)])
            obtain ⟨_, _, ⟨T22, L22, k22, n22⟩, -, X22, ⟨Lc22, hQ22, l22, y22, z22⟩, st22⟩ := Jvm.LawKit.callS X15 hx (y := (⟨"com/example/fencepost/fencepost/connector/RecordLimit", "varintSize", "(I)I"⟩ : MethodName)) hown (mvT hZ (hw _ (List.mem_of_getElem? (i := 45) rfl))) (mvT hZ (hw _ (List.mem_of_getElem? (i := 46) rfl))) (mvT hZ (hw _ (List.mem_of_getElem? (i := 8) rfl))) (mvT hZ (hw _ (List.mem_of_getElem? (i := 47) rfl))) (by decide) (backOf (W := 1) (own_rm8 l Z a0 hw [] v19  h0 n0 (by omega) ) hZ (hw _ (List.mem_of_getElem? (i := 47) rfl)) (hw _ (List.mem_of_getElem? (i := 8) rfl)) (by decide) (by decide)) (g := (mkF m 16 #[.val (.ref a_1), .val .null, .val (.int r4), .val (.int v19)] [(.int v19), (.int v19)])) rfl (by rw [hml]; rfl) (argsL := [(.int v19)]) (rest := [(.int v19)]) (lenOf own_pd0 rfl) rfl (by show 2 * 0 + _ ≤ _; exact Nat.le_of_eq rfl) (hb hby own_d5_16) (fun _ _ => ⟨rfl, e15, (by show k15 + _ ≤ _; rw [y15]; decide), (by show n15 + _ ≤ _; rw [z15]; decide)⟩)
            dsimp only [Pt.U, Pt.locs, Pt.cells, Pt.slots] at X22 l22 y22 z22 st22 hQ22
            have y22 : k22 = 0 := own_addeq y22 (congrArg (fun q => q) y15) rfl
            have z22 : n22 = 0 := own_addeq z22 (congrArg (fun q => q) z15) rfl
            obtain ⟨r23, rfl, N22q, e22, f24⟩ := hQ22
            have N22 : Fr n0 L22 := by rw [l22]; exact Fr.app N15 N22q
            refine own_go (fun _ k => st22 _ k) ?_
            show own_Go _ _ _ _ T22 (mkF m 19 #[.val (.ref a_1), .val .null, .val (.int r4), .val (.int v19)] [(.int r23), (.int v19)])
            refine own_go (fun _ k => XS.iadd X22.here hx rfl (hb hby own_d5_19) rfl k) ?_
            show own_Go _ _ _ _ T22 (mkF m 20 #[.val (.ref a_1), .val .null, .val (.int r4), .val (.int v19)] [(.int (v19 + r23))])
            refine own_go (fun _ k => XS.iloadN X22.here hx rfl (hb hby own_d5_20) rfl k) ?_
            show own_Go _ _ _ _ T22 (mkF m 21 #[.val (.ref a_1), .val .null, .val (.int r4), .val (.int v19)] [(.int r4), (.int (v19 + r23))])
            by_cases hc25 : r4 < (v19 + r23)
            · refine own_go (fun _ k => XS.icmpNo X22.here hx rfl (hb hby own_d5_21) rfl (Jvm.Free.XT.ii_le_f hc25) k) ?_
              show own_Go _ _ _ _ T22 (mkF m 24 #[.val (.ref a_1), .val .null, .val (.int r4), .val (.int v19)] [])
              refine own_go (fun _ k => XS.iinc X22.here hx rfl (hb hby own_d5_24) rfl (l' := #[.val (.ref a_1), .val .null, .val (.int r4), .val (.int (v19 + (-1 : Int32)))]) rfl k) ?_
              show own_Go _ _ _ _ T22 (mkF m 27 #[.val (.ref a_1), .val .null, .val (.int r4), .val (.int (v19 + (-1 : Int32)))] [])
              generalize hdv26 : (v19 + (-1 : Int32)) = v26
              show own_Go _ _ _ _ T22 (mkF m 27 #[.val (.ref a_1), .val .null, .val (.int r4), .val (.int v26)] [])
              refine own_go (fun _ k => XS.goto X22.here hx rfl (pc0 := 27) (pc' := 10) rfl (hb hby own_d5_27) (by decide) (by decide) k) ?_
              show own_Go _ _ _ _ T22 (mkF m 10 #[.val (.ref a_1), .val .null, .val (.int r4), .val (.int v26)] [])
              have hval4 : v26.toInt = r4.toInt - 4 := own_t5n_7 r4 v19 v26 hRb hval3 hdv26
              refine own_go (fun _ k => XS.iloadN X22.here hx rfl (hb hby own_d5_10) rfl k) ?_
              show own_Go _ _ _ _ T22 (mkF m 11 #[.val (.ref a_1), .val .null, .val (.int r4), .val (.int v26)] [(.int v26)])
              by_cases hc27 : v26 < 0
              · refine own_go (fun _ k => XS.ifYes X22.here hx rfl (pc0 := 11) (pc' := 30) rfl (hb hby own_d5_11) rfl (Jvm.Free.XT.i0_lt_t hc27) (by decide) (by decide) k) ?_
                show own_Go _ _ _ _ T22 (mkF m 30 #[.val (.ref a_1), .val .null, .val (.int r4), .val (.int v26)] [])
                refine own_go (fun _ k => XS.iloadN X22.here hx rfl (hb hby own_d5_30) rfl k) ?_
                show own_Go _ _ _ _ T22 (mkF m 31 #[.val (.ref a_1), .val .null, .val (.int r4), .val (.int v26)] [(.int v26)])
                obtain ⟨fs, hr, hrun, hended, hW, hsame⟩ := X22.leave (v := some (.int v26)) (fun h => by rw [Bd.returns] at h; cases h)
                refine ⟨_, _, retOut X22 hx Bd.returns rfl (Or.inl ⟨rfl, Or.inl rfl, _, rfl⟩) (hb hby own_d5_31) hr, hrun, hended, _, _, rfl, ?_, ⟨_, rfl⟩, hW, hsame.mono (by rw [y22]; decide) (by rw [z22]; decide)⟩
                show own_Q5n Z a_1 w_largestRecord_a_1 h0 n0 _ T22.heap _
                rw [e22]
                exact ⟨_, rfl, N22, (by have e := own_t5n_8 r4 v5 v12 r16 v19 r23 v26 hRb hval1 hval2 f17 hc18 hval3 hc20 f24 hc25 hval4 hc27; rw [e, hr_r4]), rfl⟩
              · refine own_go (fun _ k => XS.ifNo X22.here hx rfl (hb hby own_d5_11) rfl (Jvm.Free.XT.i0_lt_f hc27) k) ?_
                show own_Go _ _ _ _ T22 (mkF m 14 #[.val (.ref a_1), .val .null, .val (.int r4), .val (.int v26)] [])
                refine own_go (fun _ k => XS.iloadN X22.here hx rfl (hb hby own_d5_14) rfl k) ?_
                show own_Go _ _ _ _ T22 (mkF m 15 #[.val (.ref a_1), .val .null, .val (.int r4), .val (.int v26)] [(.int v26)])
                refine own_go (fun _ k => XS.iloadN X22.here hx rfl (hb hby own_d5_15) rfl k) ?_
                show own_Go _ _ _ _ T22 (mkF m 16 #[.val (.ref a_1), .val .null, .val (.int r4), .val (.int v26)] [(.int v26), (.int v26)])
                obtain ⟨_, _, ⟨T29, L29, k29, n29⟩, -, X29, ⟨Lc29, hQ29, l29, y29, z29⟩, st29⟩ := Jvm.LawKit.callS X22 hx (y := (⟨"com/example/fencepost/fencepost/connector/RecordLimit", "varintSize", "(I)I"⟩ : MethodName)) hown (mvT hZ (hw _ (List.mem_of_getElem? (i := 45) rfl))) (mvT hZ (hw _ (List.mem_of_getElem? (i := 46) rfl))) (mvT hZ (hw _ (List.mem_of_getElem? (i := 8) rfl))) (mvT hZ (hw _ (List.mem_of_getElem? (i := 47) rfl))) (by decide) (backOf (W := 1) (own_rm8 l Z a0 hw [] v26  h0 n0 (by omega) ) hZ (hw _ (List.mem_of_getElem? (i := 47) rfl)) (hw _ (List.mem_of_getElem? (i := 8) rfl)) (by decide) (by decide)) (g := (mkF m 16 #[.val (.ref a_1), .val .null, .val (.int r4), .val (.int v26)] [(.int v26), (.int v26)])) rfl (by rw [hml]; rfl) (argsL := [(.int v26)]) (rest := [(.int v26)]) (lenOf own_pd0 rfl) rfl (by show 2 * 0 + _ ≤ _; exact Nat.le_of_eq rfl) (hb hby own_d5_16) (fun _ _ => ⟨rfl, e22, (by show k22 + _ ≤ _; rw [y22]; decide), (by show n22 + _ ≤ _; rw [z22]; decide)⟩)
                dsimp only [Pt.U, Pt.locs, Pt.cells, Pt.slots] at X29 l29 y29 z29 st29 hQ29
                have y29 : k29 = 0 := own_addeq y29 (congrArg (fun q => q) y22) rfl
                have z29 : n29 = 0 := own_addeq z29 (congrArg (fun q => q) z22) rfl
                obtain ⟨r30, rfl, N29q, e29, f31⟩ := hQ29
                have N29 : Fr n0 L29 := by rw [l29]; exact Fr.app N22 N29q
                refine own_go (fun _ k => st29 _ k) ?_
                show own_Go _ _ _ _ T29 (mkF m 19 #[.val (.ref a_1), .val .null, .val (.int r4), .val (.int v26)] [(.int r30), (.int v26)])
                refine own_go (fun _ k => XS.iadd X29.here hx rfl (hb hby own_d5_19) rfl k) ?_
                show own_Go _ _ _ _ T29 (mkF m 20 #[.val (.ref a_1), .val .null, .val (.int r4), .val (.int v26)] [(.int (v26 + r30))])
                refine own_go (fun _ k => XS.iloadN X29.here hx rfl (hb hby own_d5_20) rfl k) ?_
                show own_Go _ _ _ _ T29 (mkF m 21 #[.val (.ref a_1), .val .null, .val (.int r4), .val (.int v26)] [(.int r4), (.int (v26 + r30))])
                by_cases hc32 : r4 < (v26 + r30)
                · refine own_go (fun _ k => XS.icmpNo X29.here hx rfl (hb hby own_d5_21) rfl (Jvm.Free.XT.ii_le_f hc32) k) ?_
                  show own_Go _ _ _ _ T29 (mkF m 24 #[.val (.ref a_1), .val .null, .val (.int r4), .val (.int v26)] [])
                  refine own_go (fun _ k => XS.iinc X29.here hx rfl (hb hby own_d5_24) rfl (l' := #[.val (.ref a_1), .val .null, .val (.int r4), .val (.int (v26 + (-1 : Int32)))]) rfl k) ?_
                  show own_Go _ _ _ _ T29 (mkF m 27 #[.val (.ref a_1), .val .null, .val (.int r4), .val (.int (v26 + (-1 : Int32)))] [])
                  generalize hdv33 : (v26 + (-1 : Int32)) = v33
                  show own_Go _ _ _ _ T29 (mkF m 27 #[.val (.ref a_1), .val .null, .val (.int r4), .val (.int v33)] [])
                  refine own_go (fun _ k => XS.goto X29.here hx rfl (pc0 := 27) (pc' := 10) rfl (hb hby own_d5_27) (by decide) (by decide) k) ?_
                  show own_Go _ _ _ _ T29 (mkF m 10 #[.val (.ref a_1), .val .null, .val (.int r4), .val (.int v33)] [])
                  have hval5 : v33.toInt = r4.toInt - 5 := own_t5n_9 r4 v26 v33 hRb hval4 hdv33
                  refine own_go (fun _ k => XS.iloadN X29.here hx rfl (hb hby own_d5_10) rfl k) ?_
                  show own_Go _ _ _ _ T29 (mkF m 11 #[.val (.ref a_1), .val .null, .val (.int r4), .val (.int v33)] [(.int v33)])
                  by_cases hc34 : v33 < 0
                  · refine own_go (fun _ k => XS.ifYes X29.here hx rfl (pc0 := 11) (pc' := 30) rfl (hb hby own_d5_11) rfl (Jvm.Free.XT.i0_lt_t hc34) (by decide) (by decide) k) ?_
                    show own_Go _ _ _ _ T29 (mkF m 30 #[.val (.ref a_1), .val .null, .val (.int r4), .val (.int v33)] [])
                    refine own_go (fun _ k => XS.iloadN X29.here hx rfl (hb hby own_d5_30) rfl k) ?_
                    show own_Go _ _ _ _ T29 (mkF m 31 #[.val (.ref a_1), .val .null, .val (.int r4), .val (.int v33)] [(.int v33)])
                    obtain ⟨fs, hr, hrun, hended, hW, hsame⟩ := X29.leave (v := some (.int v33)) (fun h => by rw [Bd.returns] at h; cases h)
                    refine ⟨_, _, retOut X29 hx Bd.returns rfl (Or.inl ⟨rfl, Or.inl rfl, _, rfl⟩) (hb hby own_d5_31) hr, hrun, hended, _, _, rfl, ?_, ⟨_, rfl⟩, hW, hsame.mono (by rw [y29]; decide) (by rw [z29]; decide)⟩
                    show own_Q5n Z a_1 w_largestRecord_a_1 h0 n0 _ T29.heap _
                    rw [e29]
                    exact ⟨_, rfl, N29, (by have e := own_t5n_10 r4 v5 v12 v19 r23 v26 r30 v33 hRb hval1 hval2 hval3 f24 hc25 hval4 hc27 f31 hc32 hval5 hc34; rw [e, hr_r4]), rfl⟩
                  · refine own_go (fun _ k => XS.ifNo X29.here hx rfl (hb hby own_d5_11) rfl (Jvm.Free.XT.i0_lt_f hc34) k) ?_
                    show own_Go _ _ _ _ T29 (mkF m 14 #[.val (.ref a_1), .val .null, .val (.int r4), .val (.int v33)] [])
                    refine own_go (fun _ k => XS.iloadN X29.here hx rfl (hb hby own_d5_14) rfl k) ?_
                    show own_Go _ _ _ _ T29 (mkF m 15 #[.val (.ref a_1), .val .null, .val (.int r4), .val (.int v33)] [(.int v33)])
                    refine own_go (fun _ k => XS.iloadN X29.here hx rfl (hb hby own_d5_15) rfl k) ?_
                    show own_Go _ _ _ _ T29 (mkF m 16 #[.val (.ref a_1), .val .null, .val (.int r4), .val (.int v33)] [(.int v33), (.int v33)])
                    obtain ⟨_, _, ⟨T36, L36, k36, n36⟩, -, X36, ⟨Lc36, hQ36, l36, y36, z36⟩, st36⟩ := Jvm.LawKit.callS X29 hx (y := (⟨"com/example/fencepost/fencepost/connector/RecordLimit", "varintSize", "(I)I"⟩ : MethodName)) hown (mvT hZ (hw _ (List.mem_of_getElem? (i := 45) rfl))) (mvT hZ (hw _ (List.mem_of_getElem? (i := 46) rfl))) (mvT hZ (hw _ (List.mem_of_getElem? (i := 8) rfl))) (mvT hZ (hw _ (List.mem_of_getElem? (i := 47) rfl))) (by decide) (backOf (W := 1) (own_rm8 l Z a0 hw [] v33  h0 n0 (by omega) ) hZ (hw _ (List.mem_of_getElem? (i := 47) rfl)) (hw _ (List.mem_of_getElem? (i := 8) rfl)) (by decide) (by decide)) (g := (mkF m 16 #[.val (.ref a_1), .val .null, .val (.int r4), .val (.int v33)] [(.int v33), (.int v33)])) rfl (by rw [hml]; rfl) (argsL := [(.int v33)]) (rest := [(.int v33)]) (lenOf own_pd0 rfl) rfl (by show 2 * 0 + _ ≤ _; exact Nat.le_of_eq rfl) (hb hby own_d5_16) (fun _ _ => ⟨rfl, e29, (by show k29 + _ ≤ _; rw [y29]; decide), (by show n29 + _ ≤ _; rw [z29]; decide)⟩)
                    dsimp only [Pt.U, Pt.locs, Pt.cells, Pt.slots] at X36 l36 y36 z36 st36 hQ36
                    have y36 : k36 = 0 := own_addeq y36 (congrArg (fun q => q) y29) rfl
                    have z36 : n36 = 0 := own_addeq z36 (congrArg (fun q => q) z29) rfl
                    obtain ⟨r37, rfl, N36q, e36, f38⟩ := hQ36
                    have N36 : Fr n0 L36 := by rw [l36]; exact Fr.app N29 N36q
                    refine own_go (fun _ k => st36 _ k) ?_
                    show own_Go _ _ _ _ T36 (mkF m 19 #[.val (.ref a_1), .val .null, .val (.int r4), .val (.int v33)] [(.int r37), (.int v33)])
                    refine own_go (fun _ k => XS.iadd X36.here hx rfl (hb hby own_d5_19) rfl k) ?_
                    show own_Go _ _ _ _ T36 (mkF m 20 #[.val (.ref a_1), .val .null, .val (.int r4), .val (.int v33)] [(.int (v33 + r37))])
                    refine own_go (fun _ k => XS.iloadN X36.here hx rfl (hb hby own_d5_20) rfl k) ?_
                    show own_Go _ _ _ _ T36 (mkF m 21 #[.val (.ref a_1), .val .null, .val (.int r4), .val (.int v33)] [(.int r4), (.int (v33 + r37))])
                    have hc39 : ¬ (r4 < (v33 + r37)) := own_t5n_11 r4 v33 r37 hRb hval5 hc34 f38
                    refine own_go (fun _ k => XS.icmpYes X36.here hx rfl (pc0 := 21) (pc' := 30) rfl (hb hby own_d5_21) rfl (Jvm.Free.XT.ii_le_t hc39) (by decide) (by decide) k) ?_
                    show own_Go _ _ _ _ T36 (mkF m 30 #[.val (.ref a_1), .val .null, .val (.int r4), .val (.int v33)] [])
                    refine own_go (fun _ k => XS.iloadN X36.here hx rfl (hb hby own_d5_30) rfl k) ?_
                    show own_Go _ _ _ _ T36 (mkF m 31 #[.val (.ref a_1), .val .null, .val (.int r4), .val (.int v33)] [(.int v33)])
                    obtain ⟨fs, hr, hrun, hended, hW, hsame⟩ := X36.leave (v := some (.int v33)) (fun h => by rw [Bd.returns] at h; cases h)
                    refine ⟨_, _, retOut X36 hx Bd.returns rfl (Or.inl ⟨rfl, Or.inl rfl, _, rfl⟩) (hb hby own_d5_31) hr, hrun, hended, _, _, rfl, ?_, ⟨_, rfl⟩, hW, hsame.mono (by rw [y36]; decide) (by rw [z36]; decide)⟩
                    show own_Q5n Z a_1 w_largestRecord_a_1 h0 n0 _ T36.heap _
                    rw [e36]
                    exact ⟨_, rfl, N36, (by have e := own_t5n_12 r4 v5 v12 v19 v26 r30 v33 r37 hRb hval1 hval2 hval3 hval4 hc27 f31 hc32 hval5 hc34 f38 hc39; rw [e, hr_r4]), rfl⟩
                · refine own_go (fun _ k => XS.icmpYes X29.here hx rfl (pc0 := 21) (pc' := 30) rfl (hb hby own_d5_21) rfl (Jvm.Free.XT.ii_le_t hc32) (by decide) (by decide) k) ?_
                  show own_Go _ _ _ _ T29 (mkF m 30 #[.val (.ref a_1), .val .null, .val (.int r4), .val (.int v26)] [])
                  refine own_go (fun _ k => XS.iloadN X29.here hx rfl (hb hby own_d5_30) rfl k) ?_
                  show own_Go _ _ _ _ T29 (mkF m 31 #[.val (.ref a_1), .val .null, .val (.int r4), .val (.int v26)] [(.int v26)])
                  obtain ⟨fs, hr, hrun, hended, hW, hsame⟩ := X29.leave (v := some (.int v26)) (fun h => by rw [Bd.returns] at h; cases h)
                  refine ⟨_, _, retOut X29 hx Bd.returns rfl (Or.inl ⟨rfl, Or.inl rfl, _, rfl⟩) (hb hby own_d5_31) hr, hrun, hended, _, _, rfl, ?_, ⟨_, rfl⟩, hW, hsame.mono (by rw [y29]; decide) (by rw [z29]; decide)⟩
                  show own_Q5n Z a_1 w_largestRecord_a_1 h0 n0 _ T29.heap _
                  rw [e29]
                  exact ⟨_, rfl, N29, (by have e := own_t5n_13 r4 v5 v12 v19 r23 v26 r30 hRb hval1 hval2 hval3 hc20 f24 hc25 hval4 hc27 f31 hc32; rw [e, hr_r4]), rfl⟩
            · refine own_go (fun _ k => XS.icmpYes X22.here hx rfl (pc0 := 21) (pc' := 30) rfl (hb hby own_d5_21) rfl (Jvm.Free.XT.ii_le_t hc25) (by decide) (by decide) k) ?_
              show own_Go _ _ _ _ T22 (mkF m 30 #[.val (.ref a_1), .val .null, .val (.int r4), .val (.int v19)] [])
              refine own_go (fun _ k => XS.iloadN X22.here hx rfl (hb hby own_d5_30) rfl k) ?_
              show own_Go _ _ _ _ T22 (mkF m 31 #[.val (.ref a_1), .val .null, .val (.int r4), .val (.int v19)] [(.int v19)])
              obtain ⟨fs, hr, hrun, hended, hW, hsame⟩ := X22.leave (v := some (.int v19)) (fun h => by rw [Bd.returns] at h; cases h)
              refine ⟨_, _, retOut X22 hx Bd.returns rfl (Or.inl ⟨rfl, Or.inl rfl, _, rfl⟩) (hb hby own_d5_31) hr, hrun, hended, _, _, rfl, ?_, ⟨_, rfl⟩, hW, hsame.mono (by rw [y22]; decide) (by rw [z22]; decide)⟩
              show own_Q5n Z a_1 w_largestRecord_a_1 h0 n0 _ T22.heap _
              rw [e22]
              exact ⟨_, rfl, N22, (by have e := own_t5n_14 r4 v5 v12 r16 v19 r23 hRb hval1 hval2 hc13 f17 hc18 hval3 hc20 f24 hc25; rw [e, hr_r4]), rfl⟩
        · refine own_go (fun _ k => XS.icmpYes X15.here hx rfl (pc0 := 21) (pc' := 30) rfl (hb hby own_d5_21) rfl (Jvm.Free.XT.ii_le_t hc18) (by decide) (by decide) k) ?_
          show own_Go _ _ _ _ T15 (mkF m 30 #[.val (.ref a_1), .val .null, .val (.int r4), .val (.int v12)] [])
          refine own_go (fun _ k => XS.iloadN X15.here hx rfl (hb hby own_d5_30) rfl k) ?_
          show own_Go _ _ _ _ T15 (mkF m 31 #[.val (.ref a_1), .val .null, .val (.int r4), .val (.int v12)] [(.int v12)])
          obtain ⟨fs, hr, hrun, hended, hW, hsame⟩ := X15.leave (v := some (.int v12)) (fun h => by rw [Bd.returns] at h; cases h)
          refine ⟨_, _, retOut X15 hx Bd.returns rfl (Or.inl ⟨rfl, Or.inl rfl, _, rfl⟩) (hb hby own_d5_31) hr, hrun, hended, _, _, rfl, ?_, ⟨_, rfl⟩, hW, hsame.mono (by rw [y15]; decide) (by rw [z15]; decide)⟩
          show own_Q5n Z a_1 w_largestRecord_a_1 h0 n0 _ T15.heap _
          rw [e15]
          exact ⟨_, rfl, N15, (by have e := own_t5n_15 r4 v5 r9 v12 r16 hRb hval1 hc6 f10 hc11 hval2 hc13 f17 hc18; rw [e, hr_r4]), rfl⟩
    · refine own_go (fun _ k => XS.icmpYes X8.here hx rfl (pc0 := 21) (pc' := 30) rfl (hb hby own_d5_21) rfl (Jvm.Free.XT.ii_le_t hc11) (by decide) (by decide) k) ?_
      show own_Go _ _ _ _ T8 (mkF m 30 #[.val (.ref a_1), .val .null, .val (.int r4), .val (.int v5)] [])
      refine own_go (fun _ k => XS.iloadN X8.here hx rfl (hb hby own_d5_30) rfl k) ?_
      show own_Go _ _ _ _ T8 (mkF m 31 #[.val (.ref a_1), .val .null, .val (.int r4), .val (.int v5)] [(.int v5)])
      obtain ⟨fs, hr, hrun, hended, hW, hsame⟩ := X8.leave (v := some (.int v5)) (fun h => by rw [Bd.returns] at h; cases h)
      refine ⟨_, _, retOut X8 hx Bd.returns rfl (Or.inl ⟨rfl, Or.inl rfl, _, rfl⟩) (hb hby own_d5_31) hr, hrun, hended, _, _, rfl, ?_, ⟨_, rfl⟩, hW, hsame.mono (by rw [y8]; decide) (by rw [z8]; decide)⟩
      show own_Q5n Z a_1 w_largestRecord_a_1 h0 n0 _ T8.heap _
      rw [e8]
      exact ⟨_, rfl, N8, (by have e := own_t5n_16 r4 v5 r9 hRb hval1 hc6 f10 hc11; rw [e, hr_r4]), rfl⟩
theorem own_ef_own_rm5a (m : MethodId) (x0 : Addr) (x1 : Addr) : entryFrame m #[(.ref x0), (.ref x1)] 4 = mkF m 0 #[.val (.ref x0), .val (.ref x1), .unset, .unset] [] := by first | (simp [entryFrame, mkF, argsToLocals, Value.category]; done) | rfl
set_option maxRecDepth 65536 in
set_option maxHeartbeats 4000000 in
theorem own_t5a_0 (w_largestRecord_a_1 : Int32) (z_a_2 : Int32) (r5 : Int32) (hz : 0 ≤ z_a_2.toInt ∧ z_a_2.toInt ≤ 16383) (hR : -20000 ≤ (((w_largestRecord_a_1 - (82 : Int32)) - ((own_rm1_ret z_a_2) + z_a_2)) - (1 : Int32)).toInt ∧ (((w_largestRecord_a_1 - (82 : Int32)) - ((own_rm1_ret z_a_2) + z_a_2)) - (1 : Int32)).toInt ≤ 2147483600) (hr_r5 : r5 = (((w_largestRecord_a_1 - (82 : Int32)) - ((own_rm1_ret z_a_2) + z_a_2)) - (1 : Int32))) : -20000 ≤ r5.toInt ∧ r5.toInt ≤ 2147483600 := by
  rw [hr_r5]; exact hR
def own_Q5a (Z : State) (a_1 : Addr) (a_2 : Addr) (w_largestRecord_a_1 : Int32) (z_a_2 : Int32) (g_a_2 : Nat → Value) (h0 : Heap) (n0 : Nat) (v : Option Value) (h : Heap) (L : List Loc) : Prop := ∃ (r_ : Int32), v = some (.int r_) ∧ Fr n0 L ∧ r_ = (own_rm11_ret (((w_largestRecord_a_1 - (82 : Int32)) - ((own_rm1_ret z_a_2) + z_a_2)) - (1 : Int32))) ∧ h = h0
set_option maxRecDepth 65536 in
set_option maxHeartbeats 40000000 in
theorem own_rm5a (l : Launch) (Z : State) (a0 : Array Value) (hw : ∀ d ∈ tables_1, d.before a0 Z = true) (ws : List Jvm.Cond) (a_1 : Addr) (a_2 : Addr) (w_largestRecord_a_1 : Int32) (z_a_2 : Int32) (g_a_2 : Nat → Value) (h0 : Heap) (n0 : Nat) (Z0 : n0 ≤ h0.size) (pr_E_a_1 : Exa Z h0 a_1 "com/example/fencepost/fencepost/connector/RecordLimit") (pr_F_a_1_largestRecord : Fld Z h0 a_1 "com/example/fencepost/fencepost/connector/RecordLimit" "largestRecord" "I" (.int w_largestRecord_a_1)) (pr_A_a_2 : own_AV Z h0 a_2 .byte z_a_2 g_a_2) (hz : 0 ≤ z_a_2.toInt ∧ z_a_2.toInt ≤ 16383) (hR : -20000 ≤ (((w_largestRecord_a_1 - (82 : Int32)) - ((own_rm1_ret z_a_2) + z_a_2)) - (1 : Int32)).toInt ∧ (((w_largestRecord_a_1 - (82 : Int32)) - ((own_rm1_ret z_a_2) + z_a_2)) - (1 : Int32)).toInt ≤ 2147483600) :
    MetFree l (⟨"com/example/fencepost/fencepost/connector/RecordLimit", "largestValue", "([B)I"⟩ : MethodName) (head1 (Jvm.Cond.code (⟨"com/example/fencepost/fencepost/connector/RecordLimit", "largestValue", "([B)I"⟩ : MethodName) prog_16_method_4_code 4 (some .int) :: ws) ({ frames := 4, cells := 0, slots := 0, locals := 54 } : Room)) (fun a U => a = #[(.ref a_1), (.ref a_2)] ∧ Z.Warmed39 U.vm ∧ U.heap = h0) (fun _ _ _ _ _ => True) (fun _ U o U' => ∃ v L, o = .returned v ∧ own_Q5a Z a_1 a_2 w_largestRecord_a_1 z_a_2 g_a_2 h0 n0 v U'.heap L ∧ FrameEnd U o U' L ({ frames := 4, cells := 0, slots := 0, locals := 54 } : Room).cells ({ frames := 4, cells := 0, slots := 0, locals := 54 } : Room).slots) := by
  refine MetFree.of_bodySF (plainFor_of_name own_pn1) hisR ?_
  intro p e s m args below meth c s₁ Bd hml0 hP hK
  obtain ⟨rfl, hZ, hh⟩ := hP
  have hx := Bd.exec
  have hby := Bd.bytes
  have hml : c.maxLocals = 4 := hml0
  have hown : s.vm.findClass "com/example/fencepost/fencepost/connector/RecordLimit" = some m.cls := findClass_of_methodNamed Bd.named
  have hnm := (name_of_methodNamed Bd.named Bd.method).1
  have X0 : Stand p l e ({ frames := 4, cells := 0, slots := 0, locals := 54 } : Room) s m #[(.ref a_1), (.ref a_2)] below meth c s₁ [] 0 0 := Stand.of_body Bd
  have e0 : s₁.heap = h0 := by rw [← hh, Bd.state]; rfl
  have N0 := Fr.nil n0
  have z0 : n0 ≤ h0.size := Z0
  have z1 := own_lt pr_E_a_1.lt
  have z2 := own_lt pr_F_a_1_largestRecord.lt
  have z3 := own_lt pr_A_a_2.lt
  show own_Go p.tables e below (fun t o => t.status = .running ∧ Ended t below o ∧ ∃ v L, o = .returned v ∧ own_Q5a Z a_1 a_2 w_largestRecord_a_1 z_a_2 g_a_2 h0 n0 v t.heap L ∧ FrameEnd s o t L ({ frames := 4, cells := 0, slots := 0, locals := 54 } : Room).cells ({ frames := 4, cells := 0, slots := 0, locals := 54 } : Room).slots) s₁ (entryFrame m #[(.ref a_1), (.ref a_2)] 4)
  rw [own_ef_own_rm5a m a_1 a_2]
  show own_Go _ _ _ _ s₁ (mkF m 0 #[.val (.ref a_1), .val (.ref a_2), .unset, .unset] [])
  refine own_go (fun _ k => XS.aloadN X0.here hx rfl (hb hby own_d5_0) rfl rfl k) ?_
  show own_Go _ _ _ _ s₁ (mkF m 1 #[.val (.ref a_1), .val (.ref a_2), .unset, .unset] [(.ref a_1)])
  refine own_go (fun _ k => XS.aloadN X0.here hx rfl (hb hby own_d5_1) rfl rfl k) ?_
  show own_Go _ _ _ _ s₁ (mkF m 2 #[.val (.ref a_1), .val (.ref a_2), .unset, .unset] [(.ref a_2), (.ref a_1)])
  obtain ⟨cq4, q4, q4'⟩ := (id pr_E_a_1).cell
  obtain ⟨_, _, ⟨T4, L4, k4, n4⟩, -, X4, ⟨Lc4, hQ4, l4, y4, z4⟩, st4⟩ := X0.privateBack hx (y := (⟨"com/example/fencepost/fencepost/connector/RecordLimit", "room", "([B)I"⟩ : MethodName)) hown (mvT hZ (hw _ (List.mem_of_getElem? (i := 38) rfl))) (mvT hZ (hw _ (List.mem_of_getElem? (i := 39) rfl))) (own_selfsel hZ (hw _ (List.mem_of_getElem? (i := 7) rfl)) (hw _ (List.mem_of_getElem? (i := 39) rfl)) (hw _ (List.mem_of_getElem? (i := 40) rfl)) (by decide)) (Cond.privateMethod_at (mvP hZ (hw _ (List.mem_of_getElem? (i := 40) rfl)) (args := #[]))) (mvT hZ (hw _ (List.mem_of_getElem? (i := 41) rfl))) (by decide) (backOf (W := 0) (own_rm6a l Z a0 hw [] a_1 a_2 z_a_2 g_a_2 w_largestRecord_a_1 h0 n0 (by omega) pr_A_a_2 hz pr_F_a_1_largestRecord) hZ (hw _ (List.mem_of_getElem? (i := 41) rfl)) (hw _ (List.mem_of_getElem? (i := 8) rfl)) (by decide) (by decide)) (g := (mkF m 2 #[.val (.ref a_1), .val (.ref a_2), .unset, .unset] [(.ref a_2), (.ref a_1)])) rfl (by rw [hml]; rfl) (Steps.refl _) (a := a_1) (by rw [e0]; exact q4) q4' (argsL := [(.ref a_2)]) (rest := []) (lenOf own_pd2 rfl) rfl (by show 2 * 0 + _ ≤ _; exact Nat.le_of_eq rfl) (hb hby own_d5_2) (fun _ _ => ⟨rfl, e0, (by decide : 0 + 0 ≤ _), (by decide : 0 + 0 ≤ _)⟩)
  dsimp only [Pt.U, Pt.locs, Pt.cells, Pt.slots] at X4 l4 y4 z4 st4 hQ4
  have y4 : k4 = 0 := y4
  have z4 : n4 = 0 := z4
  obtain ⟨r5, rfl, N4q, hr_r5, e4⟩ := hQ4
  have N4 : Fr n0 L4 := by rw [l4]; exact Fr.app N0 N4q
  refine own_go (fun _ k => st4.trans k) ?_
  show own_Go _ _ _ _ T4 (mkF m 5 #[.val (.ref a_1), .val (.ref a_2), .unset, .unset] [(.int r5)])
  refine own_go (fun _ k => XS.istoreN X4.here hx rfl (hb hby own_d5_5) rfl (l' := #[.val (.ref a_1), .val (.ref a_2), .val (.int r5), .unset]) rfl k) ?_
  show own_Go _ _ _ _ T4 (mkF m 6 #[.val (.ref a_1), .val (.ref a_2), .val (.int r5), .unset] [])
  have hRb : -20000 ≤ r5.toInt ∧ r5.toInt ≤ 2147483600 := own_t5a_0 w_largestRecord_a_1 z_a_2 r5 hz hR hr_r5
  refine own_go (fun _ k => XS.iloadN X4.here hx rfl (hb hby own_d5_6) rfl k) ?_
  show own_Go _ _ _ _ T4 (mkF m 7 #[.val (.ref a_1), .val (.ref a_2), .val (.int r5), .unset] [(.int r5)])
  refine own_go (fun _ k => XS.iconst X4.here hx rfl (hb hby own_d5_7) k) ?_
  show own_Go _ _ _ _ T4 (mkF m 8 #[.val (.ref a_1), .val (.ref a_2), .val (.int r5), .unset] [(.int (1 : Int32)), (.int r5)])
  refine own_go (fun _ k => XS.isub X4.here hx rfl (hb hby own_d5_8) rfl k) ?_
  show own_Go _ _ _ _ T4 (mkF m 9 #[.val (.ref a_1), .val (.ref a_2), .val (.int r5), .unset] [(.int (r5 - (1 : Int32)))])
  refine own_go (fun _ k => XS.istoreN X4.here hx rfl (hb hby own_d5_9) rfl (l' := #[.val (.ref a_1), .val (.ref a_2), .val (.int r5), .val (.int (r5 - (1 : Int32)))]) rfl k) ?_
  show own_Go _ _ _ _ T4 (mkF m 10 #[.val (.ref a_1), .val (.ref a_2), .val (.int r5), .val (.int (r5 - (1 : Int32)))] [])
  generalize hdv6 : (r5 - (1 : Int32)) = v6
  show own_Go _ _ _ _ T4 (mkF m 10 #[.val (.ref a_1), .val (.ref a_2), .val (.int r5), .val (.int v6)] [])
  have hval1 : v6.toInt = r5.toInt - 1 := own_t5n_1 r5 v6 hRb hdv6
  refine own_go (fun _ k => XS.iloadN X4.here hx rfl (hb hby own_d5_10) rfl k) ?_
  show own_Go _ _ _ _ T4 (mkF m 11 #[.val (.ref a_1), .val (.ref a_2), .val (.int r5), .val (.int v6)] [(.int v6)])
  by_cases hc7 : v6 < 0
  · refine own_go (fun _ k => XS.ifYes X4.here hx rfl (pc0 := 11) (pc' := 30) rfl (hb hby own_d5_11) rfl (Jvm.Free.XT.i0_lt_t hc7) (by decide) (by decide) k) ?_
    show own_Go _ _ _ _ T4 (mkF m 30 #[.val (.ref a_1), .val (.ref a_2), .val (.int r5), .val (.int v6)] [])
    refine own_go (fun _ k => XS.iloadN X4.here hx rfl (hb hby own_d5_30) rfl k) ?_
    show own_Go _ _ _ _ T4 (mkF m 31 #[.val (.ref a_1), .val (.ref a_2), .val (.int r5), .val (.int v6)] [(.int v6)])
    obtain ⟨fs, hr, hrun, hended, hW, hsame⟩ := X4.leave (v := some (.int v6)) (fun h => by rw [Bd.returns] at h; cases h)
    refine ⟨_, _, retOut X4 hx Bd.returns rfl (Or.inl ⟨rfl, Or.inl rfl, _, rfl⟩) (hb hby own_d5_31) hr, hrun, hended, _, _, rfl, ?_, ⟨_, rfl⟩, hW, hsame.mono (by rw [y4]; decide) (by rw [z4]; decide)⟩
    show own_Q5a Z a_1 a_2 w_largestRecord_a_1 z_a_2 g_a_2 h0 n0 _ T4.heap _
    rw [e4]
    exact ⟨_, rfl, N4, (by have e := own_t5n_2 r5 v6 hRb hval1 hc7; rw [e, hr_r5]), rfl⟩
  · refine own_go (fun _ k => XS.ifNo X4.here hx rfl (hb hby own_d5_11) rfl (Jvm.Free.XT.i0_lt_f hc7) k) ?_
    show own_Go _ _ _ _ T4 (mkF m 14 #[.val (.ref a_1), .val (.ref a_2), .val (.int r5), .val (.int v6)] [])
    refine own_go (fun _ k => XS.iloadN X4.here hx rfl (hb hby own_d5_14) rfl k) ?_
    show own_Go _ _ _ _ T4 (mkF m 15 #[.val (.ref a_1), .val (.ref a_2), .val (.int r5), .val (.int v6)] [(.int v6)])
    refine own_go (fun _ k => XS.iloadN X4.here hx rfl (hb hby own_d5_15) rfl k) ?_
    show own_Go _ _ _ _ T4 (mkF m 16 #[.val (.ref a_1), .val (.ref a_2), .val (.int r5), .val (.int v6)] [(.int v6), (.int v6)])
    obtain ⟨_, _, ⟨T9, L9, k9, n9⟩, -, X9, ⟨Lc9, hQ9, l9, y9, z9⟩, st9⟩ := Jvm.LawKit.callS X4 hx (y := (⟨"com/example/fencepost/fencepost/connector/RecordLimit", "varintSize", "(I)I"⟩ : MethodName)) hown (mvT hZ (hw _ (List.mem_of_getElem? (i := 45) rfl))) (mvT hZ (hw _ (List.mem_of_getElem? (i := 46) rfl))) (mvT hZ (hw _ (List.mem_of_getElem? (i := 8) rfl))) (mvT hZ (hw _ (List.mem_of_getElem? (i := 47) rfl))) (by decide) (backOf (W := 1) (own_rm8 l Z a0 hw [] v6  h0 n0 (by omega) ) hZ (hw _ (List.mem_of_getElem? (i := 47) rfl)) (hw _ (List.mem_of_getElem? (i := 8) rfl)) (by decide) (by decide)) (g := (mkF m 16 #[.val (.ref a_1), .val (.ref a_2), .val (.int r5), .val (.int v6)] [(.int v6), (.int v6)])) rfl (by rw [hml]; rfl) (argsL := [(.int v6)]) (rest := [(.int v6)]) (lenOf own_pd0 rfl) rfl (by show 2 * 0 + _ ≤ _; exact Nat.le_of_eq rfl) (hb hby own_d5_16) (fun _ _ => ⟨rfl, e4, (by show k4 + _ ≤ _; rw [y4]; decide), (by show n4 + _ ≤ _; rw [z4]; decide)⟩)
    dsimp only [Pt.U, Pt.locs, Pt.cells, Pt.slots] at X9 l9 y9 z9 st9 hQ9
    have y9 : k9 = 0 := own_addeq y9 (congrArg (fun q => q) y4) rfl
    have z9 : n9 = 0 := own_addeq z9 (congrArg (fun q => q) z4) rfl
    obtain ⟨r10, rfl, N9q, e9, f11⟩ := hQ9
    have N9 : Fr n0 L9 := by rw [l9]; exact Fr.app N4 N9q
    refine own_go (fun _ k => st9 _ k) ?_
    show own_Go _ _ _ _ T9 (mkF m 19 #[.val (.ref a_1), .val (.ref a_2), .val (.int r5), .val (.int v6)] [(.int r10), (.int v6)])
    refine own_go (fun _ k => XS.iadd X9.here hx rfl (hb hby own_d5_19) rfl k) ?_
    show own_Go _ _ _ _ T9 (mkF m 20 #[.val (.ref a_1), .val (.ref a_2), .val (.int r5), .val (.int v6)] [(.int (v6 + r10))])
    refine own_go (fun _ k => XS.iloadN X9.here hx rfl (hb hby own_d5_20) rfl k) ?_
    show own_Go _ _ _ _ T9 (mkF m 21 #[.val (.ref a_1), .val (.ref a_2), .val (.int r5), .val (.int v6)] [(.int r5), (.int (v6 + r10))])
    by_cases hc12 : r5 < (v6 + r10)
    · refine own_go (fun _ k => XS.icmpNo X9.here hx rfl (hb hby own_d5_21) rfl (Jvm.Free.XT.ii_le_f hc12) k) ?_
      show own_Go _ _ _ _ T9 (mkF m 24 #[.val (.ref a_1), .val (.ref a_2), .val (.int r5), .val (.int v6)] [])
      refine own_go (fun _ k => XS.iinc X9.here hx rfl (hb hby own_d5_24) rfl (l' := #[.val (.ref a_1), .val (.ref a_2), .val (.int r5), .val (.int (v6 + (-1 : Int32)))]) rfl k) ?_
      show own_Go _ _ _ _ T9 (mkF m 27 #[.val (.ref a_1), .val (.ref a_2), .val (.int r5), .val (.int (v6 + (-1 : Int32)))] [])
      generalize hdv13 : (v6 + (-1 : Int32)) = v13
      show own_Go _ _ _ _ T9 (mkF m 27 #[.val (.ref a_1), .val (.ref a_2), .val (.int r5), .val (.int v13)] [])
      refine own_go (fun _ k => XS.goto X9.here hx rfl (pc0 := 27) (pc' := 10) rfl (hb hby own_d5_27) (by decide) (by decide) k) ?_
      show own_Go _ _ _ _ T9 (mkF m 10 #[.val (.ref a_1), .val (.ref a_2), .val (.int r5), .val (.int v13)] [])
      have hval2 : v13.toInt = r5.toInt - 2 := own_t5n_3 r5 v6 v13 hRb hval1 hdv13
      refine own_go (fun _ k => XS.iloadN X9.here hx rfl (hb hby own_d5_10) rfl k) ?_
      show own_Go _ _ _ _ T9 (mkF m 11 #[.val (.ref a_1), .val (.ref a_2), .val (.int r5), .val (.int v13)] [(.int v13)])
      by_cases hc14 : v13 < 0
      · refine own_go (fun _ k => XS.ifYes X9.here hx rfl (pc0 := 11) (pc' := 30) rfl (hb hby own_d5_11) rfl (Jvm.Free.XT.i0_lt_t hc14) (by decide) (by decide) k) ?_
        show own_Go _ _ _ _ T9 (mkF m 30 #[.val (.ref a_1), .val (.ref a_2), .val (.int r5), .val (.int v13)] [])
        refine own_go (fun _ k => XS.iloadN X9.here hx rfl (hb hby own_d5_30) rfl k) ?_
        show own_Go _ _ _ _ T9 (mkF m 31 #[.val (.ref a_1), .val (.ref a_2), .val (.int r5), .val (.int v13)] [(.int v13)])
        obtain ⟨fs, hr, hrun, hended, hW, hsame⟩ := X9.leave (v := some (.int v13)) (fun h => by rw [Bd.returns] at h; cases h)
        refine ⟨_, _, retOut X9 hx Bd.returns rfl (Or.inl ⟨rfl, Or.inl rfl, _, rfl⟩) (hb hby own_d5_31) hr, hrun, hended, _, _, rfl, ?_, ⟨_, rfl⟩, hW, hsame.mono (by rw [y9]; decide) (by rw [z9]; decide)⟩
        show own_Q5a Z a_1 a_2 w_largestRecord_a_1 z_a_2 g_a_2 h0 n0 _ T9.heap _
        rw [e9]
        exact ⟨_, rfl, N9, (by have e := own_t5n_4 r5 v6 r10 v13 hRb hval1 hc7 f11 hc12 hval2 hc14; rw [e, hr_r5]), rfl⟩
      · refine own_go (fun _ k => XS.ifNo X9.here hx rfl (hb hby own_d5_11) rfl (Jvm.Free.XT.i0_lt_f hc14) k) ?_
        show own_Go _ _ _ _ T9 (mkF m 14 #[.val (.ref a_1), .val (.ref a_2), .val (.int r5), .val (.int v13)] [])
        refine own_go (fun _ k => XS.iloadN X9.here hx rfl (hb hby own_d5_14) rfl k) ?_
        show own_Go _ _ _ _ T9 (mkF m 15 #[.val (.ref a_1), .val (.ref a_2), .val (.int r5), .val (.int v13)] [(.int v13)])
        refine own_go (fun _ k => XS.iloadN X9.here hx rfl (hb hby own_d5_15) rfl k) ?_
        show own_Go _ _ _ _ T9 (mkF m 16 #[.val (.ref a_1), .val (.ref a_2), .val (.int r5), .val (.int v13)] [(.int v13), (.int v13)])
        obtain ⟨_, _, ⟨T16, L16, k16, n16⟩, -, X16, ⟨Lc16, hQ16, l16, y16, z16⟩, st16⟩ := Jvm.LawKit.callS X9 hx (y := (⟨"com/example/fencepost/fencepost/connector/RecordLimit", "varintSize", "(I)I"⟩ : MethodName)) hown (mvT hZ (hw _ (List.mem_of_getElem? (i := 45) rfl))) (mvT hZ (hw _ (List.mem_of_getElem? (i := 46) rfl))) (mvT hZ (hw _ (List.mem_of_getElem? (i := 8) rfl))) (mvT hZ (hw _ (List.mem_of_getElem? (i := 47) rfl))) (by decide) (backOf (W := 1) (own_rm8 l Z a0 hw [] v13  h0 n0 (by omega) ) hZ (hw _ (List.mem_of_getElem? (i := 47) rfl)) (hw _ (List.mem_of_getElem? (i := 8) rfl)) (by decide) (by decide)) (g := (mkF m 16 #[.val (.ref a_1), .val (.ref a_2), .val (.int r5), .val (.int v13)] [(.int v13), (.int v13)])) rfl (by rw [hml]; rfl) (argsL := [(.int v13)]) (rest := [(.int v13)]) (lenOf own_pd0 rfl) rfl (by show 2 * 0 + _ ≤ _; exact Nat.le_of_eq rfl) (hb hby own_d5_16) (fun _ _ => ⟨rfl, e9, (by show k9 + _ ≤ _; rw [y9]; decide), (by show n9 + _ ≤ _; rw [z9]; decide)⟩)
        dsimp only [Pt.U, Pt.locs, Pt.cells, Pt.slots] at X16 l16 y16 z16 st16 hQ16
        have y16 : k16 = 0 := own_addeq y16 (congrArg (fun q => q) y9) rfl
        have z16 : n16 = 0 := own_addeq z16 (congrArg (fun q => q) z9) rfl
        obtain ⟨r17, rfl, N16q, e16, f18⟩ := hQ16
        have N16 : Fr n0 L16 := by rw [l16]; exact Fr.app N9 N16q
        refine own_go (fun _ k => st16 _ k) ?_
        show own_Go _ _ _ _ T16 (mkF m 19 #[.val (.ref a_1), .val (.ref a_2), .val (.int r5), .val (.int v13)] [(.int r17), (.int v13)])
        refine own_go (fun _ k => XS.iadd X16.here hx rfl (hb hby own_d5_19) rfl k) ?_
        show own_Go _ _ _ _ T16 (mkF m 20 #[.val (.ref a_1), .val (.ref a_2), .val (.int r5), .val (.int v13)] [(.int (v13 + r17))])
        refine own_go (fun _ k => XS.iloadN X16.here hx rfl (hb hby own_d5_20) rfl k) ?_
        show own_Go _ _ _ _ T16 (mkF m 21 #[.val (.ref a_1), .val (.ref a_2), .val (.int r5), .val (.int v13)] [(.int r5), (.int (v13 + r17))])
        by_cases hc19 : r5 < (v13 + r17)
        · refine own_go (fun _ k => XS.icmpNo X16.here hx rfl (hb hby own_d5_21) rfl (Jvm.Free.XT.ii_le_f hc19) k) ?_
          show own_Go _ _ _ _ T16 (mkF m 24 #[.val (.ref a_1), .val (.ref a_2), .val (.int r5), .val (.int v13)] [])
          refine own_go (fun _ k => XS.iinc X16.here hx rfl (hb hby own_d5_24) rfl (l' := #[.val (.ref a_1), .val (.ref a_2), .val (.int r5), .val (.int (v13 + (-1 : Int32)))]) rfl k) ?_
          show own_Go _ _ _ _ T16 (mkF m 27 #[.val (.ref a_1), .val (.ref a_2), .val (.int r5), .val (.int (v13 + (-1 : Int32)))] [])
          generalize hdv20 : (v13 + (-1 : Int32)) = v20
          show own_Go _ _ _ _ T16 (mkF m 27 #[.val (.ref a_1), .val (.ref a_2), .val (.int r5), .val (.int v20)] [])
          refine own_go (fun _ k => XS.goto X16.here hx rfl (pc0 := 27) (pc' := 10) rfl (hb hby own_d5_27) (by decide) (by decide) k) ?_
          show own_Go _ _ _ _ T16 (mkF m 10 #[.val (.ref a_1), .val (.ref a_2), .val (.int r5), .val (.int v20)] [])
          have hval3 : v20.toInt = r5.toInt - 3 := own_t5n_5 r5 v13 v20 hRb hval2 hdv20
          refine own_go (fun _ k => XS.iloadN X16.here hx rfl (hb hby own_d5_10) rfl k) ?_
          show own_Go _ _ _ _ T16 (mkF m 11 #[.val (.ref a_1), .val (.ref a_2), .val (.int r5), .val (.int v20)] [(.int v20)])
          by_cases hc21 : v20 < 0
          · refine own_go (fun _ k => XS.ifYes X16.here hx rfl (pc0 := 11) (pc' := 30) rfl (hb hby own_d5_11) rfl (Jvm.Free.XT.i0_lt_t hc21) (by decide) (by decide) k) ?_
            show own_Go _ _ _ _ T16 (mkF m 30 #[.val (.ref a_1), .val (.ref a_2), .val (.int r5), .val (.int v20)] [])
            refine own_go (fun _ k => XS.iloadN X16.here hx rfl (hb hby own_d5_30) rfl k) ?_
            show own_Go _ _ _ _ T16 (mkF m 31 #[.val (.ref a_1), .val (.ref a_2), .val (.int r5), .val (.int v20)] [(.int v20)])
            obtain ⟨fs, hr, hrun, hended, hW, hsame⟩ := X16.leave (v := some (.int v20)) (fun h => by rw [Bd.returns] at h; cases h)
            refine ⟨_, _, retOut X16 hx Bd.returns rfl (Or.inl ⟨rfl, Or.inl rfl, _, rfl⟩) (hb hby own_d5_31) hr, hrun, hended, _, _, rfl, ?_, ⟨_, rfl⟩, hW, hsame.mono (by rw [y16]; decide) (by rw [z16]; decide)⟩
            show own_Q5a Z a_1 a_2 w_largestRecord_a_1 z_a_2 g_a_2 h0 n0 _ T16.heap _
            rw [e16]
            exact ⟨_, rfl, N16, (by have e := own_t5n_6 r5 v6 r10 v13 r17 v20 hRb hval1 f11 hc12 hval2 hc14 f18 hc19 hval3 hc21; rw [e, hr_r5]), rfl⟩
          · refine own_go (fun _ k => XS.ifNo X16.here hx rfl (hb hby own_d5_11) rfl (Jvm.Free.XT.i0_lt_f hc21) k) ?_
            show own_Go _ _ _ _ T16 (mkF m 14 #[.val (.ref a_1), .val (.ref a_2), .val (.int r5), .val (.int v20)] [])
            refine own_go (fun _ k => XS.iloadN X16.here hx rfl (hb hby own_d5_14) rfl k) ?_
            show own_Go _ _ _ _ T16 (mkF m 15 #[.val (.ref a_1), .val (.ref a_2), .val (.int r5), .val (.int v20)] [(.int v20)])
            refine own_go (fun _ k => XS.iloadN X16.here hx rfl (hb hby own_d5_15) rfl k) ?_
            show own_Go _ _ _ _ T16 (mkF m 16 #[.val (.ref a_1), .val (.ref a_2), .val (.int r5), .val (.int v20)] [(.int v20), (.int v20)])
            obtain ⟨_, _, ⟨T23, L23, k23, n23⟩, -, X23, ⟨Lc23, hQ23, l23, y23, z23⟩, st23⟩ := Jvm.LawKit.callS X16 hx (y := (⟨"com/example/fencepost/fencepost/connector/RecordLimit", "varintSize", "(I)I"⟩ : MethodName)) hown (mvT hZ (hw _ (List.mem_of_getElem? (i := 45) rfl))) (mvT hZ (hw _ (List.mem_of_getElem? (i := 46) rfl))) (mvT hZ (hw _ (List.mem_of_getElem? (i := 8) rfl))) (mvT hZ (hw _ (List.mem_of_getElem? (i := 47) rfl))) (by decide) (backOf (W := 1) (own_rm8 l Z a0 hw [] v20  h0 n0 (by omega) ) hZ (hw _ (List.mem_of_getElem? (i := 47) rfl)) (hw _ (List.mem_of_getElem? (i := 8) rfl)) (by decide) (by decide)) (g := (mkF m 16 #[.val (.ref a_1), .val (.ref a_2), .val (.int r5), .val (.int v20)] [(.int v20), (.int v20)])) rfl (by rw [hml]; rfl) (argsL := [(.int v20)]) (rest := [(.int v20)]) (lenOf own_pd0 rfl) rfl (by show 2 * 0 + _ ≤ _; exact Nat.le_of_eq rfl) (hb hby own_d5_16) (fun _ _ => ⟨rfl, e16, (by show k16 + _ ≤ _; rw [y16]; decide), (by show n16 + _ ≤ _; rw [z16]; decide)⟩)
            dsimp only [Pt.U, Pt.locs, Pt.cells, Pt.slots] at X23 l23 y23 z23 st23 hQ23
            have y23 : k23 = 0 := own_addeq y23 (congrArg (fun q => q) y16) rfl
            have z23 : n23 = 0 := own_addeq z23 (congrArg (fun q => q) z16) rfl
            obtain ⟨r24, rfl, N23q, e23, f25⟩ := hQ23
            have N23 : Fr n0 L23 := by rw [l23]; exact Fr.app N16 N23q
            refine own_go (fun _ k => st23 _ k) ?_
            show own_Go _ _ _ _ T23 (mkF m 19 #[.val (.ref a_1), .val (.ref a_2), .val (.int r5), .val (.int v20)] [(.int r24), (.int v20)])
            refine own_go (fun _ k => XS.iadd X23.here hx rfl (hb hby own_d5_19) rfl k) ?_
            show own_Go _ _ _ _ T23 (mkF m 20 #[.val (.ref a_1), .val (.ref a_2), .val (.int r5), .val (.int v20)] [(.int (v20 + r24))])
            refine own_go (fun _ k => XS.iloadN X23.here hx rfl (hb hby own_d5_20) rfl k) ?_
            show own_Go _ _ _ _ T23 (mkF m 21 #[.val (.ref a_1), .val (.ref a_2), .val (.int r5), .val (.int v20)] [(.int r5), (.int (v20 + r24))])
            by_cases hc26 : r5 < (v20 + r24)
            · refine own_go (fun _ k => XS.icmpNo X23.here hx rfl (hb hby own_d5_21) rfl (Jvm.Free.XT.ii_le_f hc26) k) ?_
              show own_Go _ _ _ _ T23 (mkF m 24 #[.val (.ref a_1), .val (.ref a_2), .val (.int r5), .val (.int v20)] [])
              refine own_go (fun _ k => XS.iinc X23.here hx rfl (hb hby own_d5_24) rfl (l' := #[.val (.ref a_1), .val (.ref a_2), .val (.int r5), .val (.int (v20 + (-1 : Int32)))]) rfl k) ?_
              show own_Go _ _ _ _ T23 (mkF m 27 #[.val (.ref a_1), .val (.ref a_2), .val (.int r5), .val (.int (v20 + (-1 : Int32)))] [])
              generalize hdv27 : (v20 + (-1 : Int32)) = v27
              show own_Go _ _ _ _ T23 (mkF m 27 #[.val (.ref a_1), .val (.ref a_2), .val (.int r5), .val (.int v27)] [])
              refine own_go (fun _ k => XS.goto X23.here hx rfl (pc0 := 27) (pc' := 10) rfl (hb hby own_d5_27) (by decide) (by decide) k) ?_
              show own_Go _ _ _ _ T23 (mkF m 10 #[.val (.ref a_1), .val (.ref a_2), .val (.int r5), .val (.int v27)] [])
              have hval4 : v27.toInt = r5.toInt - 4 := own_t5n_7 r5 v20 v27 hRb hval3 hdv27
              refine own_go (fun _ k => XS.iloadN X23.here hx rfl (hb hby own_d5_10) rfl k) ?_
              show own_Go _ _ _ _ T23 (mkF m 11 #[.val (.ref a_1), .val (.ref a_2), .val (.int r5), .val (.int v27)] [(.int v27)])
              by_cases hc28 : v27 < 0
              · refine own_go (fun _ k => XS.ifYes X23.here hx rfl (pc0 := 11) (pc' := 30) rfl (hb hby own_d5_11) rfl (Jvm.Free.XT.i0_lt_t hc28) (by decide) (by decide) k) ?_
                show own_Go _ _ _ _ T23 (mkF m 30 #[.val (.ref a_1), .val (.ref a_2), .val (.int r5), .val (.int v27)] [])
                refine own_go (fun _ k => XS.iloadN X23.here hx rfl (hb hby own_d5_30) rfl k) ?_
                show own_Go _ _ _ _ T23 (mkF m 31 #[.val (.ref a_1), .val (.ref a_2), .val (.int r5), .val (.int v27)] [(.int v27)])
                obtain ⟨fs, hr, hrun, hended, hW, hsame⟩ := X23.leave (v := some (.int v27)) (fun h => by rw [Bd.returns] at h; cases h)
                refine ⟨_, _, retOut X23 hx Bd.returns rfl (Or.inl ⟨rfl, Or.inl rfl, _, rfl⟩) (hb hby own_d5_31) hr, hrun, hended, _, _, rfl, ?_, ⟨_, rfl⟩, hW, hsame.mono (by rw [y23]; decide) (by rw [z23]; decide)⟩
                show own_Q5a Z a_1 a_2 w_largestRecord_a_1 z_a_2 g_a_2 h0 n0 _ T23.heap _
                rw [e23]
                exact ⟨_, rfl, N23, (by have e := own_t5n_8 r5 v6 v13 r17 v20 r24 v27 hRb hval1 hval2 f18 hc19 hval3 hc21 f25 hc26 hval4 hc28; rw [e, hr_r5]), rfl⟩
              · refine own_go (fun _ k => XS.ifNo X23.here hx rfl (hb hby own_d5_11) rfl (Jvm.Free.XT.i0_lt_f hc28) k) ?_
                show own_Go _ _ _ _ T23 (mkF m 14 #[.val (.ref a_1), .val (.ref a_2), .val (.int r5), .val (.int v27)] [])
                refine own_go (fun _ k => XS.iloadN X23.here hx rfl (hb hby own_d5_14) rfl k) ?_
                show own_Go _ _ _ _ T23 (mkF m 15 #[.val (.ref a_1), .val (.ref a_2), .val (.int r5), .val (.int v27)] [(.int v27)])
                refine own_go (fun _ k => XS.iloadN X23.here hx rfl (hb hby own_d5_15) rfl k) ?_
                show own_Go _ _ _ _ T23 (mkF m 16 #[.val (.ref a_1), .val (.ref a_2), .val (.int r5), .val (.int v27)] [(.int v27), (.int v27)])
                obtain ⟨_, _, ⟨T30, L30, k30, n30⟩, -, X30, ⟨Lc30, hQ30, l30, y30, z30⟩, st30⟩ := Jvm.LawKit.callS X23 hx (y := (⟨"com/example/fencepost/fencepost/connector/RecordLimit", "varintSize", "(I)I"⟩ : MethodName)) hown (mvT hZ (hw _ (List.mem_of_getElem? (i := 45) rfl))) (mvT hZ (hw _ (List.mem_of_getElem? (i := 46) rfl))) (mvT hZ (hw _ (List.mem_of_getElem? (i := 8) rfl))) (mvT hZ (hw _ (List.mem_of_getElem? (i := 47) rfl))) (by decide) (backOf (W := 1) (own_rm8 l Z a0 hw [] v27  h0 n0 (by omega) ) hZ (hw _ (List.mem_of_getElem? (i := 47) rfl)) (hw _ (List.mem_of_getElem? (i := 8) rfl)) (by decide) (by decide)) (g := (mkF m 16 #[.val (.ref a_1), .val (.ref a_2), .val (.int r5), .val (.int v27)] [(.int v27), (.int v27)])) rfl (by rw [hml]; rfl) (argsL := [(.int v27)]) (rest := [(.int v27)]) (lenOf own_pd0 rfl) rfl (by show 2 * 0 + _ ≤ _; exact Nat.le_of_eq rfl) (hb hby own_d5_16) (fun _ _ => ⟨rfl, e23, (by show k23 + _ ≤ _; rw [y23]; decide), (by show n23 + _ ≤ _; rw [z23]; decide)⟩)
                dsimp only [Pt.U, Pt.locs, Pt.cells, Pt.slots] at X30 l30 y30 z30 st30 hQ30
                have y30 : k30 = 0 := own_addeq y30 (congrArg (fun q => q) y23) rfl
                have z30 : n30 = 0 := own_addeq z30 (congrArg (fun q => q) z23) rfl
                obtain ⟨r31, rfl, N30q, e30, f32⟩ := hQ30
                have N30 : Fr n0 L30 := by rw [l30]; exact Fr.app N23 N30q
                refine own_go (fun _ k => st30 _ k) ?_
                show own_Go _ _ _ _ T30 (mkF m 19 #[.val (.ref a_1), .val (.ref a_2), .val (.int r5), .val (.int v27)] [(.int r31), (.int v27)])
                refine own_go (fun _ k => XS.iadd X30.here hx rfl (hb hby own_d5_19) rfl k) ?_
                show own_Go _ _ _ _ T30 (mkF m 20 #[.val (.ref a_1), .val (.ref a_2), .val (.int r5), .val (.int v27)] [(.int (v27 + r31))])
                refine own_go (fun _ k => XS.iloadN X30.here hx rfl (hb hby own_d5_20) rfl k) ?_
                show own_Go _ _ _ _ T30 (mkF m 21 #[.val (.ref a_1), .val (.ref a_2), .val (.int r5), .val (.int v27)] [(.int r5), (.int (v27 + r31))])
                by_cases hc33 : r5 < (v27 + r31)
                · refine own_go (fun _ k => XS.icmpNo X30.here hx rfl (hb hby own_d5_21) rfl (Jvm.Free.XT.ii_le_f hc33) k) ?_
                  show own_Go _ _ _ _ T30 (mkF m 24 #[.val (.ref a_1), .val (.ref a_2), .val (.int r5), .val (.int v27)] [])
                  refine own_go (fun _ k => XS.iinc X30.here hx rfl (hb hby own_d5_24) rfl (l' := #[.val (.ref a_1), .val (.ref a_2), .val (.int r5), .val (.int (v27 + (-1 : Int32)))]) rfl k) ?_
                  show own_Go _ _ _ _ T30 (mkF m 27 #[.val (.ref a_1), .val (.ref a_2), .val (.int r5), .val (.int (v27 + (-1 : Int32)))] [])
                  generalize hdv34 : (v27 + (-1 : Int32)) = v34
                  show own_Go _ _ _ _ T30 (mkF m 27 #[.val (.ref a_1), .val (.ref a_2), .val (.int r5), .val (.int v34)] [])
                  refine own_go (fun _ k => XS.goto X30.here hx rfl (pc0 := 27) (pc' := 10) rfl (hb hby own_d5_27) (by decide) (by decide) k) ?_
                  show own_Go _ _ _ _ T30 (mkF m 10 #[.val (.ref a_1), .val (.ref a_2), .val (.int r5), .val (.int v34)] [])
                  have hval5 : v34.toInt = r5.toInt - 5 := own_t5n_9 r5 v27 v34 hRb hval4 hdv34
                  refine own_go (fun _ k => XS.iloadN X30.here hx rfl (hb hby own_d5_10) rfl k) ?_
                  show own_Go _ _ _ _ T30 (mkF m 11 #[.val (.ref a_1), .val (.ref a_2), .val (.int r5), .val (.int v34)] [(.int v34)])
                  by_cases hc35 : v34 < 0
                  · refine own_go (fun _ k => XS.ifYes X30.here hx rfl (pc0 := 11) (pc' := 30) rfl (hb hby own_d5_11) rfl (Jvm.Free.XT.i0_lt_t hc35) (by decide) (by decide) k) ?_
                    show own_Go _ _ _ _ T30 (mkF m 30 #[.val (.ref a_1), .val (.ref a_2), .val (.int r5), .val (.int v34)] [])
                    refine own_go (fun _ k => XS.iloadN X30.here hx rfl (hb hby own_d5_30) rfl k) ?_
                    show own_Go _ _ _ _ T30 (mkF m 31 #[.val (.ref a_1), .val (.ref a_2), .val (.int r5), .val (.int v34)] [(.int v34)])
                    obtain ⟨fs, hr, hrun, hended, hW, hsame⟩ := X30.leave (v := some (.int v34)) (fun h => by rw [Bd.returns] at h; cases h)
                    refine ⟨_, _, retOut X30 hx Bd.returns rfl (Or.inl ⟨rfl, Or.inl rfl, _, rfl⟩) (hb hby own_d5_31) hr, hrun, hended, _, _, rfl, ?_, ⟨_, rfl⟩, hW, hsame.mono (by rw [y30]; decide) (by rw [z30]; decide)⟩
                    show own_Q5a Z a_1 a_2 w_largestRecord_a_1 z_a_2 g_a_2 h0 n0 _ T30.heap _
                    rw [e30]
                    exact ⟨_, rfl, N30, (by have e := own_t5n_10 r5 v6 v13 v20 r24 v27 r31 v34 hRb hval1 hval2 hval3 f25 hc26 hval4 hc28 f32 hc33 hval5 hc35; rw [e, hr_r5]), rfl⟩
                  · refine own_go (fun _ k => XS.ifNo X30.here hx rfl (hb hby own_d5_11) rfl (Jvm.Free.XT.i0_lt_f hc35) k) ?_
                    show own_Go _ _ _ _ T30 (mkF m 14 #[.val (.ref a_1), .val (.ref a_2), .val (.int r5), .val (.int v34)] [])
                    refine own_go (fun _ k => XS.iloadN X30.here hx rfl (hb hby own_d5_14) rfl k) ?_
                    show own_Go _ _ _ _ T30 (mkF m 15 #[.val (.ref a_1), .val (.ref a_2), .val (.int r5), .val (.int v34)] [(.int v34)])
                    refine own_go (fun _ k => XS.iloadN X30.here hx rfl (hb hby own_d5_15) rfl k) ?_
                    show own_Go _ _ _ _ T30 (mkF m 16 #[.val (.ref a_1), .val (.ref a_2), .val (.int r5), .val (.int v34)] [(.int v34), (.int v34)])
                    obtain ⟨_, _, ⟨T37, L37, k37, n37⟩, -, X37, ⟨Lc37, hQ37, l37, y37, z37⟩, st37⟩ := Jvm.LawKit.callS X30 hx (y := (⟨"com/example/fencepost/fencepost/connector/RecordLimit", "varintSize", "(I)I"⟩ : MethodName)) hown (mvT hZ (hw _ (List.mem_of_getElem? (i := 45) rfl))) (mvT hZ (hw _ (List.mem_of_getElem? (i := 46) rfl))) (mvT hZ (hw _ (List.mem_of_getElem? (i := 8) rfl))) (mvT hZ (hw _ (List.mem_of_getElem? (i := 47) rfl))) (by decide) (backOf (W := 1) (own_rm8 l Z a0 hw [] v34  h0 n0 (by omega) ) hZ (hw _ (List.mem_of_getElem? (i := 47) rfl)) (hw _ (List.mem_of_getElem? (i := 8) rfl)) (by decide) (by decide)) (g := (mkF m 16 #[.val (.ref a_1), .val (.ref a_2), .val (.int r5), .val (.int v34)] [(.int v34), (.int v34)])) rfl (by rw [hml]; rfl) (argsL := [(.int v34)]) (rest := [(.int v34)]) (lenOf own_pd0 rfl) rfl (by show 2 * 0 + _ ≤ _; exact Nat.le_of_eq rfl) (hb hby own_d5_16) (fun _ _ => ⟨rfl, e30, (by show k30 + _ ≤ _; rw [y30]; decide), (by show n30 + _ ≤ _; rw [z30]; decide)⟩)
                    dsimp only [Pt.U, Pt.locs, Pt.cells, Pt.slots] at X37 l37 y37 z37 st37 hQ37
                    have y37 : k37 = 0 := own_addeq y37 (congrArg (fun q => q) y30) rfl
                    have z37 : n37 = 0 := own_addeq z37 (congrArg (fun q => q) z30) rfl
                    obtain ⟨r38, rfl, N37q, e37, f39⟩ := hQ37
                    have N37 : Fr n0 L37 := by rw [l37]; exact Fr.app N30 N37q
                    refine own_go (fun _ k => st37 _ k) ?_
                    show own_Go _ _ _ _ T37 (mkF m 19 #[.val (.ref a_1), .val (.ref a_2), .val (.int r5), .val (.int v34)] [(.int r38), (.int v34)])
                    refine own_go (fun _ k => XS.iadd X37.here hx rfl (hb hby own_d5_19) rfl k) ?_
                    show own_Go _ _ _ _ T37 (mkF m 20 #[.val (.ref a_1), .val (.ref a_2), .val (.int r5), .val (.int v34)] [(.int (v34 + r38))])
                    refine own_go (fun _ k => XS.iloadN X37.here hx rfl (hb hby own_d5_20) rfl k) ?_
                    show own_Go _ _ _ _ T37 (mkF m 21 #[.val (.ref a_1), .val (.ref a_2), .val (.int r5), .val (.int v34)] [(.int r5), (.int (v34 + r38))])
                    have hc40 : ¬ (r5 < (v34 + r38)) := own_t5n_11 r5 v34 r38 hRb hval5 hc35 f39
                    refine own_go (fun _ k => XS.icmpYes X37.here hx rfl (pc0 := 21) (pc' := 30) rfl (hb hby own_d5_21) rfl (Jvm.Free.XT.ii_le_t hc40) (by decide) (by decide) k) ?_
                    show own_Go _ _ _ _ T37 (mkF m 30 #[.val (.ref a_1), .val (.ref a_2), .val (.int r5), .val (.int v34)] [])
                    refine own_go (fun _ k => XS.iloadN X37.here hx rfl (hb hby own_d5_30) rfl k) ?_
                    show own_Go _ _ _ _ T37 (mkF m 31 #[.val (.ref a_1), .val (.ref a_2), .val (.int r5), .val (.int v34)] [(.int v34)])
                    obtain ⟨fs, hr, hrun, hended, hW, hsame⟩ := X37.leave (v := some (.int v34)) (fun h => by rw [Bd.returns] at h; cases h)
                    refine ⟨_, _, retOut X37 hx Bd.returns rfl (Or.inl ⟨rfl, Or.inl rfl, _, rfl⟩) (hb hby own_d5_31) hr, hrun, hended, _, _, rfl, ?_, ⟨_, rfl⟩, hW, hsame.mono (by rw [y37]; decide) (by rw [z37]; decide)⟩
                    show own_Q5a Z a_1 a_2 w_largestRecord_a_1 z_a_2 g_a_2 h0 n0 _ T37.heap _
                    rw [e37]
                    exact ⟨_, rfl, N37, (by have e := own_t5n_12 r5 v6 v13 v20 v27 r31 v34 r38 hRb hval1 hval2 hval3 hval4 hc28 f32 hc33 hval5 hc35 f39 hc40; rw [e, hr_r5]), rfl⟩
                · refine own_go (fun _ k => XS.icmpYes X30.here hx rfl (pc0 := 21) (pc' := 30) rfl (hb hby own_d5_21) rfl (Jvm.Free.XT.ii_le_t hc33) (by decide) (by decide) k) ?_
                  show own_Go _ _ _ _ T30 (mkF m 30 #[.val (.ref a_1), .val (.ref a_2), .val (.int r5), .val (.int v27)] [])
                  refine own_go (fun _ k => XS.iloadN X30.here hx rfl (hb hby own_d5_30) rfl k) ?_
                  show own_Go _ _ _ _ T30 (mkF m 31 #[.val (.ref a_1), .val (.ref a_2), .val (.int r5), .val (.int v27)] [(.int v27)])
                  obtain ⟨fs, hr, hrun, hended, hW, hsame⟩ := X30.leave (v := some (.int v27)) (fun h => by rw [Bd.returns] at h; cases h)
                  refine ⟨_, _, retOut X30 hx Bd.returns rfl (Or.inl ⟨rfl, Or.inl rfl, _, rfl⟩) (hb hby own_d5_31) hr, hrun, hended, _, _, rfl, ?_, ⟨_, rfl⟩, hW, hsame.mono (by rw [y30]; decide) (by rw [z30]; decide)⟩
                  show own_Q5a Z a_1 a_2 w_largestRecord_a_1 z_a_2 g_a_2 h0 n0 _ T30.heap _
                  rw [e30]
                  exact ⟨_, rfl, N30, (by have e := own_t5n_13 r5 v6 v13 v20 r24 v27 r31 hRb hval1 hval2 hval3 hc21 f25 hc26 hval4 hc28 f32 hc33; rw [e, hr_r5]), rfl⟩
            · refine own_go (fun _ k => XS.icmpYes X23.here hx rfl (pc0 := 21) (pc' := 30) rfl (hb hby own_d5_21) rfl (Jvm.Free.XT.ii_le_t hc26) (by decide) (by decide) k) ?_
              show own_Go _ _ _ _ T23 (mkF m 30 #[.val (.ref a_1), .val (.ref a_2), .val (.int r5), .val (.int v20)] [])
              refine own_go (fun _ k => XS.iloadN X23.here hx rfl (hb hby own_d5_30) rfl k) ?_
              show own_Go _ _ _ _ T23 (mkF m 31 #[.val (.ref a_1), .val (.ref a_2), .val (.int r5), .val (.int v20)] [(.int v20)])
              obtain ⟨fs, hr, hrun, hended, hW, hsame⟩ := X23.leave (v := some (.int v20)) (fun h => by rw [Bd.returns] at h; cases h)
              refine ⟨_, _, retOut X23 hx Bd.returns rfl (Or.inl ⟨rfl, Or.inl rfl, _, rfl⟩) (hb hby own_d5_31) hr, hrun, hended, _, _, rfl, ?_, ⟨_, rfl⟩, hW, hsame.mono (by rw [y23]; decide) (by rw [z23]; decide)⟩
              show own_Q5a Z a_1 a_2 w_largestRecord_a_1 z_a_2 g_a_2 h0 n0 _ T23.heap _
              rw [e23]
              exact ⟨_, rfl, N23, (by have e := own_t5n_14 r5 v6 v13 r17 v20 r24 hRb hval1 hval2 hc14 f18 hc19 hval3 hc21 f25 hc26; rw [e, hr_r5]), rfl⟩
        · refine own_go (fun _ k => XS.icmpYes X16.here hx rfl (pc0 := 21) (pc' := 30) rfl (hb hby own_d5_21) rfl (Jvm.Free.XT.ii_le_t hc19) (by decide) (by decide) k) ?_
          show own_Go _ _ _ _ T16 (mkF m 30 #[.val (.ref a_1), .val (.ref a_2), .val (.int r5), .val (.int v13)] [])
          refine own_go (fun _ k => XS.iloadN X16.here hx rfl (hb hby own_d5_30) rfl k) ?_
          show own_Go _ _ _ _ T16 (mkF m 31 #[.val (.ref a_1), .val (.ref a_2), .val (.int r5), .val (.int v13)] [(.int v13)])
          obtain ⟨fs, hr, hrun, hended, hW, hsame⟩ := X16.leave (v := some (.int v13)) (fun h => by rw [Bd.returns] at h; cases h)
          refine ⟨_, _, retOut X16 hx Bd.returns rfl (Or.inl ⟨rfl, Or.inl rfl, _, rfl⟩) (hb hby own_d5_31) hr, hrun, hended, _, _, rfl, ?_, ⟨_, rfl⟩, hW, hsame.mono (by rw [y16]; decide) (by rw [z16]; decide)⟩
          show own_Q5a Z a_1 a_2 w_largestRecord_a_1 z_a_2 g_a_2 h0 n0 _ T16.heap _
          rw [e16]
          exact ⟨_, rfl, N16, (by have e := own_t5n_15 r5 v6 r10 v13 r17 hRb hval1 hc7 f11 hc12 hval2 hc14 f18 hc19; rw [e, hr_r5]), rfl⟩
    · refine own_go (fun _ k => XS.icmpYes X9.here hx rfl (pc0 := 21) (pc' := 30) rfl (hb hby own_d5_21) rfl (Jvm.Free.XT.ii_le_t hc12) (by decide) (by decide) k) ?_
      show own_Go _ _ _ _ T9 (mkF m 30 #[.val (.ref a_1), .val (.ref a_2), .val (.int r5), .val (.int v6)] [])
      refine own_go (fun _ k => XS.iloadN X9.here hx rfl (hb hby own_d5_30) rfl k) ?_
      show own_Go _ _ _ _ T9 (mkF m 31 #[.val (.ref a_1), .val (.ref a_2), .val (.int r5), .val (.int v6)] [(.int v6)])
      obtain ⟨fs, hr, hrun, hended, hW, hsame⟩ := X9.leave (v := some (.int v6)) (fun h => by rw [Bd.returns] at h; cases h)
      refine ⟨_, _, retOut X9 hx Bd.returns rfl (Or.inl ⟨rfl, Or.inl rfl, _, rfl⟩) (hb hby own_d5_31) hr, hrun, hended, _, _, rfl, ?_, ⟨_, rfl⟩, hW, hsame.mono (by rw [y9]; decide) (by rw [z9]; decide)⟩
      show own_Q5a Z a_1 a_2 w_largestRecord_a_1 z_a_2 g_a_2 h0 n0 _ T9.heap _
      rw [e9]
      exact ⟨_, rfl, N9, (by have e := own_t5n_16 r5 v6 r10 hRb hval1 hc7 f11 hc12; rw [e, hr_r5]), rfl⟩
theorem own_d3_0 : decode jdk_30_method_1_code 0 = .ok (.aload_n 0, 1) := by decide +kernel
theorem own_d3_1 : decode jdk_30_method_1_code 1 = .ok (.invokespecial 1, 3) := by decide +kernel
theorem own_d3_4 : decode jdk_30_method_1_code 4 = .ok (.return_, 1) := by decide +kernel
theorem own_ef_own_rm3 (m : MethodId) (x0 : Addr) : entryFrame m #[(.ref x0)] 1 = mkF m 0 #[.val (.ref x0)] [] := by first | (simp [entryFrame, mkF, argsToLocals, Value.category]; done) | rfl
def own_Q3 (Z : State) (a_1 : Addr) (h0 : Heap) (n0 : Nat) (v : Option Value) (h : Heap) (L : List Loc) : Prop := v = none ∧ Fr n0 L ∧ h = h0
set_option maxRecDepth 65536 in
set_option maxHeartbeats 40000000 in
theorem own_rm3 (l : Launch) (Z : State) (a0 : Array Value) (hw : ∀ d ∈ tables_1, d.before a0 Z = true) (ws : List Jvm.Cond) (a_1 : Addr) (h0 : Heap) (n0 : Nat) (Z0 : n0 ≤ h0.size) :
    MetFree l (⟨"java/lang/Record", "<init>", "()V"⟩ : MethodName) (head1 (Jvm.Cond.code (⟨"java/lang/Record", "<init>", "()V"⟩ : MethodName) jdk_30_method_1_code 1 none :: ws) ({ frames := 1, cells := 0, slots := 0, locals := 12 } : Room)) (fun a U => a = #[(.ref a_1)] ∧ Z.Warmed39 U.vm ∧ U.heap = h0) (fun _ _ _ _ _ => True) (fun _ U o U' => ∃ v L, o = .returned v ∧ own_Q3 Z a_1 h0 n0 v U'.heap L ∧ FrameEnd U o U' L ({ frames := 1, cells := 0, slots := 0, locals := 12 } : Room).cells ({ frames := 1, cells := 0, slots := 0, locals := 12 } : Room).slots) := by
  refine MetFree.of_bodySF (plainFor_of_name own_pn3) hisR ?_
  intro p e s m args below meth c s₁ Bd hml0 hP hK
  obtain ⟨rfl, hZ, hh⟩ := hP
  have hx := Bd.exec
  have hby := Bd.bytes
  have hml : c.maxLocals = 1 := hml0
  have hown : s.vm.findClass "java/lang/Record" = some m.cls := findClass_of_methodNamed Bd.named
  have hnm := (name_of_methodNamed Bd.named Bd.method).1
  have X0 : Stand p l e ({ frames := 1, cells := 0, slots := 0, locals := 12 } : Room) s m #[(.ref a_1)] below meth c s₁ [] 0 0 := Stand.of_body Bd
  have e0 : s₁.heap = h0 := by rw [← hh, Bd.state]; rfl
  have N0 := Fr.nil n0
  have z0 : n0 ≤ h0.size := Z0
  show own_Go p.tables e below (fun t o => t.status = .running ∧ Ended t below o ∧ ∃ v L, o = .returned v ∧ own_Q3 Z a_1 h0 n0 v t.heap L ∧ FrameEnd s o t L ({ frames := 1, cells := 0, slots := 0, locals := 12 } : Room).cells ({ frames := 1, cells := 0, slots := 0, locals := 12 } : Room).slots) s₁ (entryFrame m #[(.ref a_1)] 1)
  rw [own_ef_own_rm3 m a_1]
  show own_Go _ _ _ _ s₁ (mkF m 0 #[.val (.ref a_1)] [])
  refine own_go (fun _ k => XS.aloadN X0.here hx rfl (hb hby own_d3_0) rfl rfl k) ?_
  show own_Go _ _ _ _ s₁ (mkF m 1 #[.val (.ref a_1)] [(.ref a_1)])
  obtain ⟨T1, X1, e1, st1⟩ := initO X0 hx hZ hown (hw _ (List.mem_of_getElem? (i := 24) rfl)) (hw _ (List.mem_of_getElem? (i := 25) rfl)) (hw _ (List.mem_of_getElem? (i := 26) rfl)) e0 (g := (mkF m 1 #[.val (.ref a_1)] [(.ref a_1)])) rfl (by rw [hml]; rfl) rfl (hb hby own_d3_1) (by decide) (W := 0) (by show 2 * 0 + _ ≤ _; exact Nat.le_of_eq rfl) (by decide)
  refine own_go (fun _ k => st1 _ k) ?_
  show own_Go _ _ _ _ T1 (mkF m 4 #[.val (.ref a_1)] [])
  obtain ⟨fs, hr, hrun, hended, hW, hsame⟩ := X1.leave (v := none) (fun _ => rfl)
  refine ⟨_, _, X1.returnOut hx Bd.returns (hb hby own_d3_4) hr, hrun, hended, _, _, rfl, ?_, ⟨_, rfl⟩, hW, hsame.mono (by decide) (by decide)⟩
  show own_Q3 Z a_1 h0 n0 _ T1.heap _
  rw [e1]
  exact ⟨rfl, N0, rfl⟩
theorem own_d2_0 : decode prog_16_method_2_code 0 = .ok (.aload_n 0, 1) := by decide +kernel
theorem own_d2_1 : decode prog_16_method_2_code 1 = .ok (.invokespecial 1, 3) := by decide +kernel
theorem own_d2_4 : decode prog_16_method_2_code 4 = .ok (.aload_n 0, 1) := by decide +kernel
theorem own_d2_5 : decode prog_16_method_2_code 5 = .ok (.iload_n 1, 1) := by decide +kernel
theorem own_d2_6 : decode prog_16_method_2_code 6 = .ok (.putfield 7, 3) := by decide +kernel
theorem own_d2_9 : decode prog_16_method_2_code 9 = .ok (.aload_n 0, 1) := by decide +kernel
theorem own_d2_10 : decode prog_16_method_2_code 10 = .ok (.aload_n 2, 1) := by decide +kernel
theorem own_d2_11 : decode prog_16_method_2_code 11 = .ok (.putfield 13, 3) := by decide +kernel
theorem own_d2_14 : decode prog_16_method_2_code 14 = .ok (.aload_n 0, 1) := by decide +kernel
theorem own_d2_15 : decode prog_16_method_2_code 15 = .ok (.aload_n 3, 1) := by decide +kernel
theorem own_d2_16 : decode prog_16_method_2_code 16 = .ok (.putfield 17, 3) := by decide +kernel
theorem own_d2_19 : decode prog_16_method_2_code 19 = .ok (.return_, 1) := by decide +kernel
theorem own_ef_own_rm2 (m : MethodId) (x0 : Addr) (x1 : Int32) (x2 : Addr) : entryFrame m #[(.ref x0), (.int x1), (.ref x2), .null] 4 = mkF m 0 #[.val (.ref x0), .val (.int x1), .val (.ref x2), .val .null] [] := by first | (simp [entryFrame, mkF, argsToLocals, Value.category]; done) | rfl
def own_Q2 (Z : State) (a_1 : Addr) (p_2 : Int32) (a_3 : Addr) (w_largestRecord_a_1 : Int32) (w_setting_a_1 : Value) (w_topic_a_1 : Value) (h0 : Heap) (n0 : Nat) (v : Option Value) (h : Heap) (L : List Loc) : Prop := v = none ∧ Fr n0 L ∧ Keep h0 h [a_1] ∧ Exa Z h a_1 "com/example/fencepost/fencepost/connector/RecordLimit" ∧ Fld Z h a_1 "com/example/fencepost/fencepost/connector/RecordLimit" "largestRecord" "I" (.int p_2) ∧ Fld Z h a_1 "com/example/fencepost/fencepost/connector/RecordLimit" "setting" "Ljava/lang/String;" (.ref a_3) ∧ Fld Z h a_1 "com/example/fencepost/fencepost/connector/RecordLimit" "topic" "Ljava/lang/String;" .null
set_option maxRecDepth 65536 in
set_option maxHeartbeats 40000000 in
theorem own_rm2 (l : Launch) (Z : State) (a0 : Array Value) (hw : ∀ d ∈ tables_1, d.before a0 Z = true) (ws : List Jvm.Cond) (a_1 : Addr) (p_2 : Int32) (a_3 : Addr) (w_largestRecord_a_1 : Int32) (w_setting_a_1 : Value) (w_topic_a_1 : Value) (h0 : Heap) (n0 : Nat) (Z0 : n0 ≤ h0.size) (pr_E_a_1 : Exa Z h0 a_1 "com/example/fencepost/fencepost/connector/RecordLimit") (pr_F_a_1_largestRecord : Fld Z h0 a_1 "com/example/fencepost/fencepost/connector/RecordLimit" "largestRecord" "I" (.int w_largestRecord_a_1)) (pr_F_a_1_setting : Fld Z h0 a_1 "com/example/fencepost/fencepost/connector/RecordLimit" "setting" "Ljava/lang/String;" w_setting_a_1) (pr_F_a_1_topic : Fld Z h0 a_1 "com/example/fencepost/fencepost/connector/RecordLimit" "topic" "Ljava/lang/String;" w_topic_a_1) (gw_a_1 : n0 ≤ a_1) :
    MetFree l (⟨"com/example/fencepost/fencepost/connector/RecordLimit", "<init>", "(ILjava/lang/String;Ljava/lang/String;)V"⟩ : MethodName) (head1 (Jvm.Cond.code (⟨"com/example/fencepost/fencepost/connector/RecordLimit", "<init>", "(ILjava/lang/String;Ljava/lang/String;)V"⟩ : MethodName) prog_16_method_2_code 4 none :: ws) ({ frames := 2, cells := 0, slots := 0, locals := 24 } : Room)) (fun a U => a = #[(.ref a_1), (.int p_2), (.ref a_3), .null] ∧ Z.Warmed39 U.vm ∧ U.heap = h0) (fun _ _ _ _ _ => True) (fun _ U o U' => ∃ v L, o = .returned v ∧ own_Q2 Z a_1 p_2 a_3 w_largestRecord_a_1 w_setting_a_1 w_topic_a_1 h0 n0 v U'.heap L ∧ FrameEnd U o U' L ({ frames := 2, cells := 0, slots := 0, locals := 24 } : Room).cells ({ frames := 2, cells := 0, slots := 0, locals := 24 } : Room).slots) := by
  refine MetFree.of_bodySF (plainFor_of_name own_pn1) hisR ?_
  intro p e s m args below meth c s₁ Bd hml0 hP hK
  obtain ⟨rfl, hZ, hh⟩ := hP
  have hx := Bd.exec
  have hby := Bd.bytes
  have hml : c.maxLocals = 4 := hml0
  have hown : s.vm.findClass "com/example/fencepost/fencepost/connector/RecordLimit" = some m.cls := findClass_of_methodNamed Bd.named
  have hnm := (name_of_methodNamed Bd.named Bd.method).1
  have X0 : Stand p l e ({ frames := 2, cells := 0, slots := 0, locals := 24 } : Room) s m #[(.ref a_1), (.int p_2), (.ref a_3), .null] below meth c s₁ [] 0 0 := Stand.of_body Bd
  have e0 : s₁.heap = h0 := by rw [← hh, Bd.state]; rfl
  have N0 := Fr.nil n0
  have z0 : n0 ≤ h0.size := Z0
  have z1 := own_lt pr_E_a_1.lt
  have z2 := own_lt pr_F_a_1_largestRecord.lt
  have z3 := own_lt pr_F_a_1_setting.lt
  have z4 := own_lt pr_F_a_1_topic.lt
  have K0 : Keep h0 h0 [a_1] := Keep.refl h0 _
  show own_Go p.tables e below (fun t o => t.status = .running ∧ Ended t below o ∧ ∃ v L, o = .returned v ∧ own_Q2 Z a_1 p_2 a_3 w_largestRecord_a_1 w_setting_a_1 w_topic_a_1 h0 n0 v t.heap L ∧ FrameEnd s o t L ({ frames := 2, cells := 0, slots := 0, locals := 24 } : Room).cells ({ frames := 2, cells := 0, slots := 0, locals := 24 } : Room).slots) s₁ (entryFrame m #[(.ref a_1), (.int p_2), (.ref a_3), .null] 4)
  rw [own_ef_own_rm2 m a_1 p_2 a_3]
  show own_Go _ _ _ _ s₁ (mkF m 0 #[.val (.ref a_1), .val (.int p_2), .val (.ref a_3), .val .null] [])
  refine own_go (fun _ k => XS.aloadN X0.here hx rfl (hb hby own_d2_0) rfl rfl k) ?_
  show own_Go _ _ _ _ s₁ (mkF m 1 #[.val (.ref a_1), .val (.int p_2), .val (.ref a_3), .val .null] [(.ref a_1)])
  obtain ⟨_, _, ⟨T5, L5, k5, n5⟩, -, X5, ⟨Lc5, hQ5, l5, y5, z5⟩, st5⟩ := X0.specialBack hx (y := (⟨"java/lang/Record", "<init>", "()V"⟩ : MethodName)) rfl hown (mvT hZ (hw _ (List.mem_of_getElem? (i := 19) rfl))) (mvT hZ (hw _ (List.mem_of_getElem? (i := 20) rfl))) (mvT hZ (hw _ (List.mem_of_getElem? (i := 23) rfl))) (by decide) (backOf (W := 0) (own_rm3 l Z a0 hw [] a_1  h0 n0 (by omega) ) hZ (hw _ (List.mem_of_getElem? (i := 23) rfl)) (hw _ (List.mem_of_getElem? (i := 22) rfl)) (by decide) (by decide)) (g := (mkF m 1 #[.val (.ref a_1), .val (.int p_2), .val (.ref a_3), .val .null] [(.ref a_1)])) rfl (by rw [hml]; rfl) (Steps.refl _) (a := a_1) (argsL := []) (rest := []) (lenOf own_pd3 rfl) rfl (by show 2 * 0 + _ ≤ _; exact Nat.le_of_eq rfl) (hb hby own_d2_1) (fun _ _ => ⟨rfl, e0, (by decide : 0 + 0 ≤ _), (by decide : 0 + 0 ≤ _)⟩)
  dsimp only [Pt.U, Pt.locs, Pt.cells, Pt.slots] at X5 l5 y5 z5 st5 hQ5
  have y5 : k5 = 0 := y5
  have z5 : n5 = 0 := z5
  obtain ⟨rfl, N5q, e5⟩ := hQ5
  have N5 : Fr n0 L5 := by rw [l5]; exact Fr.app N0 N5q
  refine own_go (fun _ k => st5.trans k) ?_
  show own_Go _ _ _ _ T5 (mkF m 4 #[.val (.ref a_1), .val (.int p_2), .val (.ref a_3), .val .null] [])
  refine own_go (fun _ k => XS.aloadN X5.here hx rfl (hb hby own_d2_4) rfl rfl k) ?_
  show own_Go _ _ _ _ T5 (mkF m 5 #[.val (.ref a_1), .val (.int p_2), .val (.ref a_3), .val .null] [(.ref a_1)])
  refine own_go (fun _ k => XS.iloadN X5.here hx rfl (hb hby own_d2_5) rfl k) ?_
  show own_Go _ _ _ _ T5 (mkF m 6 #[.val (.ref a_1), .val (.int p_2), .val (.ref a_3), .val .null] [(.int p_2), (.ref a_1)])
  obtain ⟨T6, h6, X6, e6, W6, st6⟩ := putF X5 hx hZ hown (host := "") (Or.inl (hw _ (List.mem_of_getElem? (i := 27) rfl))) Via.refl e5 pr_F_a_1_largestRecord pr_E_a_1 (Or.inr ⟨(hw _ (List.mem_of_getElem? (i := 28) rfl)), rfl, hnm⟩) (hw _ (List.mem_of_getElem? (i := 7) rfl)) (ty := .int) (by decide) rfl rfl (g := (mkF m 6 #[.val (.ref a_1), .val (.int p_2), .val (.ref a_3), .val .null] [(.int p_2), (.ref a_1)])) rfl rfl (hb hby own_d2_6)
  have z7 := W6.size
  have K6 : Keep h0 h6 [a_1] := K0.wr W6 (Or.inl (List.mem_of_getElem? (i := 0) rfl))
  have N6 := Fr.snoc X6 N5 (by omega : n0 ≤ a_1)
  have Fw6 : Fld Z h6 a_1 "com/example/fencepost/fencepost/connector/RecordLimit" "largestRecord" "I" (.int p_2) := Fld.same W6 pr_F_a_1_largestRecord
  refine own_go (fun _ k => st6 _ k) ?_
  show own_Go _ _ _ _ T6 (mkF m 9 #[.val (.ref a_1), .val (.int p_2), .val (.ref a_3), .val .null] [])
  refine own_go (fun _ k => XS.aloadN X6.here hx rfl (hb hby own_d2_9) rfl rfl k) ?_
  show own_Go _ _ _ _ T6 (mkF m 10 #[.val (.ref a_1), .val (.int p_2), .val (.ref a_3), .val .null] [(.ref a_1)])
  refine own_go (fun _ k => XS.aloadN X6.here hx rfl (hb hby own_d2_10) rfl rfl k) ?_
  show own_Go _ _ _ _ T6 (mkF m 11 #[.val (.ref a_1), .val (.int p_2), .val (.ref a_3), .val .null] [(.ref a_3), (.ref a_1)])
  have f8 : Exa Z h6 a_1 "com/example/fencepost/fencepost/connector/RecordLimit" := (pr_E_a_1.wr W6)
  have f9 : Fld Z h6 a_1 "com/example/fencepost/fencepost/connector/RecordLimit" "setting" "Ljava/lang/String;" w_setting_a_1 := (pr_F_a_1_setting.other W6 (Or.inr (slot_ne (Or.inr (hw _ (List.mem_of_getElem? (i := 30) rfl))) (Or.inr (hw _ (List.mem_of_getElem? (i := 28) rfl))) (by decide) (t := (.object "java/lang/String")) (t' := .int) (by decide) (by decide))))
  obtain ⟨T10, h10, X10, e10, W10, st10⟩ := putF X6 hx hZ hown (host := "") (Or.inl (hw _ (List.mem_of_getElem? (i := 29) rfl))) Via.refl e6 f9 f8 (Or.inr ⟨(hw _ (List.mem_of_getElem? (i := 30) rfl)), rfl, hnm⟩) (hw _ (List.mem_of_getElem? (i := 7) rfl)) (ty := (.object "java/lang/String")) (by decide) rfl rfl (g := (mkF m 11 #[.val (.ref a_1), .val (.int p_2), .val (.ref a_3), .val .null] [(.ref a_3), (.ref a_1)])) rfl rfl (hb hby own_d2_11)
  have z11 := W10.size
  have K10 : Keep h0 h10 [a_1] := K6.wr W10 (Or.inl (List.mem_of_getElem? (i := 0) rfl))
  have N10 := Fr.snoc X10 N6 (by omega : n0 ≤ a_1)
  have Fw10 : Fld Z h10 a_1 "com/example/fencepost/fencepost/connector/RecordLimit" "setting" "Ljava/lang/String;" (.ref a_3) := Fld.same W10 f9
  refine own_go (fun _ k => st10 _ k) ?_
  show own_Go _ _ _ _ T10 (mkF m 14 #[.val (.ref a_1), .val (.int p_2), .val (.ref a_3), .val .null] [])
  refine own_go (fun _ k => XS.aloadN X10.here hx rfl (hb hby own_d2_14) rfl rfl k) ?_
  show own_Go _ _ _ _ T10 (mkF m 15 #[.val (.ref a_1), .val (.int p_2), .val (.ref a_3), .val .null] [(.ref a_1)])
  refine own_go (fun _ k => XS.aloadN X10.here hx rfl (hb hby own_d2_15) rfl rfl k) ?_
  show own_Go _ _ _ _ T10 (mkF m 16 #[.val (.ref a_1), .val (.int p_2), .val (.ref a_3), .val .null] [.null, (.ref a_1)])
  have f12 : Exa Z h10 a_1 "com/example/fencepost/fencepost/connector/RecordLimit" := (f8.wr W10)
  have f13 : Fld Z h10 a_1 "com/example/fencepost/fencepost/connector/RecordLimit" "topic" "Ljava/lang/String;" w_topic_a_1 := ((pr_F_a_1_topic.other W6 (Or.inr (slot_ne (Or.inr (hw _ (List.mem_of_getElem? (i := 32) rfl))) (Or.inr (hw _ (List.mem_of_getElem? (i := 28) rfl))) (by decide) (t := (.object "java/lang/String")) (t' := .int) (by decide) (by decide)))).other W10 (Or.inr (slot_ne (Or.inr (hw _ (List.mem_of_getElem? (i := 32) rfl))) (Or.inr (hw _ (List.mem_of_getElem? (i := 30) rfl))) (by decide) (t := (.object "java/lang/String")) (t' := (.object "java/lang/String")) (by decide) (by decide))))
  obtain ⟨T14, h14, X14, e14, W14, st14⟩ := putF X10 hx hZ hown (host := "") (Or.inl (hw _ (List.mem_of_getElem? (i := 31) rfl))) Via.refl e10 f13 f12 (Or.inr ⟨(hw _ (List.mem_of_getElem? (i := 32) rfl)), rfl, hnm⟩) (hw _ (List.mem_of_getElem? (i := 7) rfl)) (ty := (.object "java/lang/String")) (by decide) rfl rfl (g := (mkF m 16 #[.val (.ref a_1), .val (.int p_2), .val (.ref a_3), .val .null] [.null, (.ref a_1)])) rfl rfl (hb hby own_d2_16)
  have z15 := W14.size
  have K14 : Keep h0 h14 [a_1] := K10.wr W14 (Or.inl (List.mem_of_getElem? (i := 0) rfl))
  have N14 := Fr.snoc X14 N10 (by omega : n0 ≤ a_1)
  have Fw14 : Fld Z h14 a_1 "com/example/fencepost/fencepost/connector/RecordLimit" "topic" "Ljava/lang/String;" .null := Fld.same W14 f13
  refine own_go (fun _ k => st14 _ k) ?_
  show own_Go _ _ _ _ T14 (mkF m 19 #[.val (.ref a_1), .val (.int p_2), .val (.ref a_3), .val .null] [])
  obtain ⟨fs, hr, hrun, hended, hW, hsame⟩ := X14.leave (v := none) (fun _ => rfl)
  refine ⟨_, _, X14.returnOut hx Bd.returns (hb hby own_d2_19) hr, hrun, hended, _, _, rfl, ?_, ⟨_, rfl⟩, hW, hsame.mono (by rw [y5]; decide) (by rw [z5]; decide)⟩
  show own_Q2 Z a_1 p_2 a_3 w_largestRecord_a_1 w_setting_a_1 w_topic_a_1 h0 n0 _ T14.heap _
  rw [e14]
  have f17 : Exa Z h14 a_1 "com/example/fencepost/fencepost/connector/RecordLimit" := (f12.wr W14)
  have f18 : Fld Z h14 a_1 "com/example/fencepost/fencepost/connector/RecordLimit" "largestRecord" "I" (.int p_2) := ((Fw6.other W10 (Or.inr (slot_ne (Or.inr (hw _ (List.mem_of_getElem? (i := 28) rfl))) (Or.inr (hw _ (List.mem_of_getElem? (i := 30) rfl))) (by decide) (t := .int) (t' := (.object "java/lang/String")) (by decide) (by decide)))).other W14 (Or.inr (slot_ne (Or.inr (hw _ (List.mem_of_getElem? (i := 28) rfl))) (Or.inr (hw _ (List.mem_of_getElem? (i := 32) rfl))) (by decide) (t := .int) (t' := (.object "java/lang/String")) (by decide) (by decide))))
  have f19 : Fld Z h14 a_1 "com/example/fencepost/fencepost/connector/RecordLimit" "setting" "Ljava/lang/String;" (.ref a_3) := (Fw10.other W14 (Or.inr (slot_ne (Or.inr (hw _ (List.mem_of_getElem? (i := 30) rfl))) (Or.inr (hw _ (List.mem_of_getElem? (i := 32) rfl))) (by decide) (t := (.object "java/lang/String")) (t' := (.object "java/lang/String")) (by decide) (by decide))))
  exact ⟨rfl, N14, K14, f17, f18, f19, Fw14⟩
theorem own_ef_own_rm0 (m : MethodId) (x0 : Int32) (x1 : Int32) : entryFrame m #[(.int x0), (.int x1)] maxLocals = mkF m 0 #[.val (.int x0), .val (.int x1), .unset, .unset, .unset, .unset, .unset, .unset, .unset] [] := by first | (simp [entryFrame, mkF, argsToLocals, Value.category, maxLocals]; done) | rfl
set_option maxRecDepth 65536 in
set_option maxHeartbeats 4000000 in
theorem own_t0_0 (p_1 : Int32) (v1 : Int32) (v6 : Int32) (hdv1 : (p_1 &&& (2147483647 : Int32)) = v1) (hdv6 : (((v1 - (82 : Int32)) - (1 : Int32)) - (1 : Int32)) = v6) : 0 ≤ v1.toInt := by
  have el0 : (1 : Int32).toInt = 1 := by decide
  have el1 : (82 : Int32).toInt = 82 := by decide
  have el2 : (2147483647 : Int32).toInt = 2147483647 := by decide
  have rv_p_1 := rng32 p_1
  have rv_v1 := rng32 v1
  have rv_v6 := rng32 v6
  have fa6 := c_mask p_1 (2147483647 : Int32) 31 (by decide) (by decide)
  have fa7 := c_isub v1 (82 : Int32)
  have fa8 := rng32 (v1 - (82 : Int32))
  have fa9 := c_isub (v1 - (82 : Int32)) (1 : Int32)
  have fa10 := rng32 ((v1 - (82 : Int32)) - (1 : Int32))
  have fa11 := c_isub ((v1 - (82 : Int32)) - (1 : Int32)) (1 : Int32)
  have fa12 := rng32 (((v1 - (82 : Int32)) - (1 : Int32)) - (1 : Int32))
  have own0 : (0 : Int32).toInt = 0 := by decide
  simp only [← Int32.toInt_inj, Int32.lt_iff_toInt_lt, implies_true, and_true, true_and, own0, el0, el1, el2] at *
  omega
set_option maxRecDepth 65536 in
set_option maxHeartbeats 4000000 in
theorem own_t0_1 (p_2 : Int32) (v3 : Int32) (hc2 : (p_2 &&& (1 : Int32)) = 0) (hdv3 : (((p_2.toUInt32 >>> ((1 : Int32) &&& 31).toUInt32).toInt32) &&& (16383 : Int32)) = v3) : 0 ≤ v3.toInt ∧ v3.toInt ≤ 16383 := by
  have el0 : (1 : Int32).toInt = 1 := by decide
  have el1 : (16383 : Int32).toInt = 16383 := by decide
  have rv_p_2 := rng32 p_2
  have rv_v3 := rng32 v3
  have fa4 := c_mask p_2 (1 : Int32) 1 (by decide) (by decide)
  have fa5 := c_iushr p_2 (1 : Int32) 1 (by decide) (by decide)
  have fa6 := c_mask ((p_2.toUInt32 >>> ((1 : Int32) &&& 31).toUInt32).toInt32) (16383 : Int32) 14 (by decide) (by decide)
  have own0 : (0 : Int32).toInt = 0 := by decide
  simp only [← Int32.toInt_inj, Int32.lt_iff_toInt_lt, implies_true, and_true, true_and, own0, el0, el1] at *
  omega
set_option maxRecDepth 65536 in
set_option maxHeartbeats 4000000 in
theorem own_t0_2 (v1 : Int32) (hlr : 0 ≤ v1.toInt) : -20000 ≤ (((v1 - (82 : Int32)) - (1 : Int32)) - (1 : Int32)).toInt ∧ (((v1 - (82 : Int32)) - (1 : Int32)) - (1 : Int32)).toInt ≤ 2147483600 := by
  have el0 : (1 : Int32).toInt = 1 := by decide
  have el1 : (82 : Int32).toInt = 82 := by decide
  have rv_v1 := rng32 v1
  have fa3 := c_isub v1 (82 : Int32)
  have fa4 := rng32 (v1 - (82 : Int32))
  have fa5 := c_isub (v1 - (82 : Int32)) (1 : Int32)
  have fa6 := rng32 ((v1 - (82 : Int32)) - (1 : Int32))
  have fa7 := c_isub ((v1 - (82 : Int32)) - (1 : Int32)) (1 : Int32)
  have fa8 := rng32 (((v1 - (82 : Int32)) - (1 : Int32)) - (1 : Int32))
  have own0 : (0 : Int32).toInt = 0 := by decide
  simp only [← Int32.toInt_inj, Int32.lt_iff_toInt_lt, implies_true, and_true, true_and, own0, el0, el1] at *
  omega
set_option maxRecDepth 65536 in
set_option maxHeartbeats 4000000 in
theorem own_t0_3 (p_1 : Int32) (v1 : Int32) (v6 : Int32) (r26 : Int32) (r28 : Int32) (hdv1 : (p_1 &&& (2147483647 : Int32)) = v1) (hdv6 : (((v1 - (82 : Int32)) - (1 : Int32)) - (1 : Int32)) = v6) (hlr : 0 ≤ v1.toInt) (hr_r26 : r26 = (own_rm11_ret (((v1 - (82 : Int32)) - (1 : Int32)) - (1 : Int32)))) (hr_r28 : r28 = (own_rm11_ret v6)) : r26 = r28 := by
  subst_vars; rfl
set_option maxRecDepth 65536 in
set_option maxHeartbeats 4000000 in
theorem own_t0_4 (p_2 : Int32) (v31 : Int32) (hc2 : ¬ ((p_2 &&& (1 : Int32)) = 0)) (hdv31 : (((p_2.toUInt32 >>> ((1 : Int32) &&& 31).toUInt32).toInt32) &&& (16383 : Int32)) = v31) : ¬ v31 < 0 := by
  have el0 : (1 : Int32).toInt = 1 := by decide
  have el1 : (16383 : Int32).toInt = 16383 := by decide
  have rv_p_2 := rng32 p_2
  have rv_v31 := rng32 v31
  have fa4 := c_mask p_2 (1 : Int32) 1 (by decide) (by decide)
  have fa5 := c_iushr p_2 (1 : Int32) 1 (by decide) (by decide)
  have fa6 := c_mask ((p_2.toUInt32 >>> ((1 : Int32) &&& 31).toUInt32).toInt32) (16383 : Int32) 14 (by decide) (by decide)
  have own0 : (0 : Int32).toInt = 0 := by decide
  simp only [← Int32.toInt_inj, Int32.lt_iff_toInt_lt, implies_true, and_true, true_and, own0, el0, el1] at *
  omega
set_option maxRecDepth 65536 in
set_option maxHeartbeats 4000000 in
theorem own_t0_5 (p_2 : Int32) (v31 : Int32) (hc2 : ¬ ((p_2 &&& (1 : Int32)) = 0)) (hdv31 : (((p_2.toUInt32 >>> ((1 : Int32) &&& 31).toUInt32).toInt32) &&& (16383 : Int32)) = v31) : 0 ≤ v31.toInt ∧ v31.toInt ≤ 16383 := by
  have el0 : (1 : Int32).toInt = 1 := by decide
  have el1 : (16383 : Int32).toInt = 16383 := by decide
  have rv_p_2 := rng32 p_2
  have rv_v31 := rng32 v31
  have fa4 := c_mask p_2 (1 : Int32) 1 (by decide) (by decide)
  have fa5 := c_iushr p_2 (1 : Int32) 1 (by decide) (by decide)
  have fa6 := c_mask ((p_2.toUInt32 >>> ((1 : Int32) &&& 31).toUInt32).toInt32) (16383 : Int32) 14 (by decide) (by decide)
  have own0 : (0 : Int32).toInt = 0 := by decide
  simp only [← Int32.toInt_inj, Int32.lt_iff_toInt_lt, implies_true, and_true, true_and, own0, el0, el1] at *
  omega
set_option maxRecDepth 65536 in
set_option maxHeartbeats 4000000 in
theorem own_t0_6 (p_1 : Int32) (p_2 : Int32) (v1 : Int32) (v31 : Int32) (r37 : Int32) (v38 : Int32) (v39 : Int32) (hdv1 : (p_1 &&& (2147483647 : Int32)) = v1) (hc2 : ¬ ((p_2 &&& (1 : Int32)) = 0)) (hdv31 : (((p_2.toUInt32 >>> ((1 : Int32) &&& 31).toUInt32).toInt32) &&& (16383 : Int32)) = v31) (hr_r37 : r37 = (own_rm1_ret v31)) (hdv38 : (r37 + v31) = v38) (hdv39 : (((v1 - (82 : Int32)) - v38) - (1 : Int32)) = v39) : 0 ≤ v1.toInt := by
  have el0 : (1 : Int32).toInt = 1 := by decide
  have el1 : (82 : Int32).toInt = 82 := by decide
  have el2 : (16383 : Int32).toInt = 16383 := by decide
  have el3 : (2147483647 : Int32).toInt = 2147483647 := by decide
  have rv_p_1 := rng32 p_1
  have rv_p_2 := rng32 p_2
  have rv_v1 := rng32 v1
  have rv_v31 := rng32 v31
  have rv_r37 := rng32 r37
  have rv_v38 := rng32 v38
  have rv_v39 := rng32 v39
  have fa11 := c_mask p_1 (2147483647 : Int32) 31 (by decide) (by decide)
  have fa12 := c_mask p_2 (1 : Int32) 1 (by decide) (by decide)
  have fa13 := c_iushr p_2 (1 : Int32) 1 (by decide) (by decide)
  have fa14 := c_mask ((p_2.toUInt32 >>> ((1 : Int32) &&& 31).toUInt32).toInt32) (16383 : Int32) 14 (by decide) (by decide)
  have fa15 := c_iadd r37 v31
  have fa16 := rng32 (r37 + v31)
  have fa17 := c_isub v1 (82 : Int32)
  have fa18 := rng32 (v1 - (82 : Int32))
  have fa19 := c_isub (v1 - (82 : Int32)) v38
  have fa20 := rng32 ((v1 - (82 : Int32)) - v38)
  have fa21 := c_isub ((v1 - (82 : Int32)) - v38) (1 : Int32)
  have fa22 := rng32 (((v1 - (82 : Int32)) - v38) - (1 : Int32))
  have own0 : (0 : Int32).toInt = 0 := by decide
  simp only [← Int32.toInt_inj, Int32.lt_iff_toInt_lt, implies_true, and_true, true_and, own0, el0, el1, el2, el3] at *
  omega
set_option maxRecDepth 65536 in
set_option maxHeartbeats 4000000 in
theorem own_t0_7 (p_1 : Int32) (p_2 : Int32) (v1 : Int32) (v31 : Int32) (r37 : Int32) (v38 : Int32) (v39 : Int32) (hdv1 : (p_1 &&& (2147483647 : Int32)) = v1) (hc2 : ¬ ((p_2 &&& (1 : Int32)) = 0)) (hdv31 : (((p_2.toUInt32 >>> ((1 : Int32) &&& 31).toUInt32).toInt32) &&& (16383 : Int32)) = v31) (hr_r37 : r37 = (own_rm1_ret v31)) (hdv38 : (r37 + v31) = v38) (hdv39 : (((v1 - (82 : Int32)) - v38) - (1 : Int32)) = v39) (hlr : 0 ≤ v1.toInt) : 0 ≤ v31.toInt ∧ v31.toInt ≤ 16383 := by
  have el0 : (1 : Int32).toInt = 1 := by decide
  have el1 : (82 : Int32).toInt = 82 := by decide
  have el2 : (16383 : Int32).toInt = 16383 := by decide
  have el3 : (2147483647 : Int32).toInt = 2147483647 := by decide
  have rv_p_1 := rng32 p_1
  have rv_p_2 := rng32 p_2
  have rv_v1 := rng32 v1
  have rv_v31 := rng32 v31
  have rv_r37 := rng32 r37
  have rv_v38 := rng32 v38
  have rv_v39 := rng32 v39
  have fa11 := c_mask p_1 (2147483647 : Int32) 31 (by decide) (by decide)
  have fa12 := c_mask p_2 (1 : Int32) 1 (by decide) (by decide)
  have fa13 := c_iushr p_2 (1 : Int32) 1 (by decide) (by decide)
  have fa14 := c_mask ((p_2.toUInt32 >>> ((1 : Int32) &&& 31).toUInt32).toInt32) (16383 : Int32) 14 (by decide) (by decide)
  have fa15 := c_iadd r37 v31
  have fa16 := rng32 (r37 + v31)
  have fa17 := c_isub v1 (82 : Int32)
  have fa18 := rng32 (v1 - (82 : Int32))
  have fa19 := c_isub (v1 - (82 : Int32)) v38
  have fa20 := rng32 ((v1 - (82 : Int32)) - v38)
  have fa21 := c_isub ((v1 - (82 : Int32)) - v38) (1 : Int32)
  have fa22 := rng32 (((v1 - (82 : Int32)) - v38) - (1 : Int32))
  have own0 : (0 : Int32).toInt = 0 := by decide
  simp only [← Int32.toInt_inj, Int32.lt_iff_toInt_lt, implies_true, and_true, true_and, own0, el0, el1, el2, el3] at *
  omega
set_option maxRecDepth 65536 in
set_option maxHeartbeats 4000000 in
theorem own_t0_8 (v1 : Int32) (v31 : Int32) (hlr : 0 ≤ v1.toInt) (hzz : 0 ≤ v31.toInt ∧ v31.toInt ≤ 16383) : -20000 ≤ (((v1 - (82 : Int32)) - ((own_rm1_ret v31) + v31)) - (1 : Int32)).toInt ∧ (((v1 - (82 : Int32)) - ((own_rm1_ret v31) + v31)) - (1 : Int32)).toInt ≤ 2147483600 := by
  have l3 := own_ls3 v31
  have r3 := rng32 (own_rm1_ret v31)
  have el0 : (1 : Int32).toInt = 1 := by decide
  have el1 : (82 : Int32).toInt = 82 := by decide
  have rv_v1 := rng32 v1
  have rv_v31 := rng32 v31
  have fa4 := c_isub v1 (82 : Int32)
  have fa5 := rng32 (v1 - (82 : Int32))
  have fa6 := c_iadd (own_rm1_ret v31) v31
  have fa7 := rng32 ((own_rm1_ret v31) + v31)
  have fa8 := c_isub (v1 - (82 : Int32)) ((own_rm1_ret v31) + v31)
  have fa9 := rng32 ((v1 - (82 : Int32)) - ((own_rm1_ret v31) + v31))
  have fa10 := c_isub ((v1 - (82 : Int32)) - ((own_rm1_ret v31) + v31)) (1 : Int32)
  have fa11 := rng32 (((v1 - (82 : Int32)) - ((own_rm1_ret v31) + v31)) - (1 : Int32))
  have own0 : (0 : Int32).toInt = 0 := by decide
  simp only [← Int32.toInt_inj, Int32.lt_iff_toInt_lt, implies_true, and_true, true_and, own0, el0, el1] at *
  omega
set_option maxRecDepth 65536 in
set_option maxHeartbeats 4000000 in
theorem own_t0_9 (p_1 : Int32) (p_2 : Int32) (v1 : Int32) (v31 : Int32) (r37 : Int32) (v38 : Int32) (v39 : Int32) (r60 : Int32) (r62 : Int32) (hdv1 : (p_1 &&& (2147483647 : Int32)) = v1) (hc2 : ¬ ((p_2 &&& (1 : Int32)) = 0)) (hdv31 : (((p_2.toUInt32 >>> ((1 : Int32) &&& 31).toUInt32).toInt32) &&& (16383 : Int32)) = v31) (hr_r37 : r37 = (own_rm1_ret v31)) (hdv38 : (r37 + v31) = v38) (hdv39 : (((v1 - (82 : Int32)) - v38) - (1 : Int32)) = v39) (hlr : 0 ≤ v1.toInt) (hzz : 0 ≤ v31.toInt ∧ v31.toInt ≤ 16383) (hr_r60 : r60 = (own_rm11_ret (((v1 - (82 : Int32)) - ((own_rm1_ret v31) + v31)) - (1 : Int32)))) (hr_r62 : r62 = (own_rm11_ret v39)) : r60 = r62 := by
  subst_vars; rfl
def own_Q0 (Z : State) (p_1 : Int32) (p_2 : Int32) (h0 : Heap) (n0 : Nat) (v : Option Value) (h : Heap) (L : List Loc) : Prop := v = some (.int (1 : Int32)) ∧ Fr n0 L
set_option maxRecDepth 65536 in
set_option maxHeartbeats 40000000 in
theorem own_rm0 (l : Launch) (Z : State) (a0 : Array Value) (hw : ∀ d ∈ tables_1, d.before a0 Z = true) (ws : List Jvm.Cond) (p_1 : Int32) (p_2 : Int32) (h0 : Heap) (n0 : Nat) (Z0 : n0 ≤ h0.size) :
    MetFree l x (head1 (Jvm.Cond.code x code maxLocals ret :: ws) room_1) (fun a U => a = #[(.int p_1), (.int p_2)] ∧ Z.Warmed39 U.vm ∧ U.heap = h0) (fun _ _ _ _ _ => True) (fun _ U o U' => ∃ v L, o = .returned v ∧ own_Q0 Z p_1 p_2 h0 n0 v U'.heap L ∧ ReturnedEndW U o U' L 4 16454) := by
  refine MetFree.of_bodySF (plainFor_of_name own_pn2) hisR ?_
  intro p e s m args below meth c s₁ Bd hml0 hP hK
  obtain ⟨rfl, hZ, hh⟩ := hP
  have hx := Bd.exec
  have hby := Bd.bytes
  have hml : c.maxLocals = 9 := hml0
  have hown : s.vm.findClass "com/example/fencepost/fencepost/connector/RecordLimitLargestValuePinLaw" = some m.cls := findClass_of_methodNamed Bd.named
  have hnm := (name_of_methodNamed Bd.named Bd.method).1
  have X0 : Stand p l e room_1 s m #[(.int p_1), (.int p_2)] below meth c s₁ [] 0 0 := Stand.of_body Bd
  have e0 : s₁.heap = h0 := by rw [← hh, Bd.state]; rfl
  have N0 := Fr.nil n0
  have X0 : Stand p l e room_1 (s.setVm s.vm) m #[(.int p_1), (.int p_2)] below meth c s₁ [] 0 0 := X0
  have hZ : Z.Warmed39 (s.setVm s.vm).vm := hZ
  have hown : (s.setVm s.vm).vm.findClass "com/example/fencepost/fencepost/connector/RecordLimitLargestValuePinLaw" = some m.cls := hown
  have hS0 : s.Since s.vm 0 := (State.WarmedH.refl s).since 0
  have z0 : n0 ≤ h0.size := Z0
  show own_Go p.tables e below (fun t o => t.status = .running ∧ Ended t below o ∧ ∃ v L, o = .returned v ∧ own_Q0 Z p_1 p_2 h0 n0 v t.heap L ∧ ReturnedEndW s o t L 4 16454) s₁ (entryFrame m #[(.int p_1), (.int p_2)] maxLocals)
  rw [own_ef_own_rm0 m p_1 p_2]
  show own_Go _ _ _ _ s₁ (mkF m 0 #[.val (.int p_1), .val (.int p_2), .unset, .unset, .unset, .unset, .unset, .unset, .unset] [])
  refine own_go (fun _ k => XS.iloadN X0.here hx rfl (hb hby at_0) rfl k) ?_
  show own_Go _ _ _ _ s₁ (mkF m 1 #[.val (.int p_1), .val (.int p_2), .unset, .unset, .unset, .unset, .unset, .unset, .unset] [(.int p_1)])
  refine own_go (fun _ k => X0.ldcInt hx hown (mvT hZ (hw _ (List.mem_of_getElem? (i := 0) rfl))) (g := (mkF m 1 #[.val (.int p_1), .val (.int p_2), .unset, .unset, .unset, .unset, .unset, .unset, .unset] [(.int p_1)])) rfl (hb hby at_1) _ k) ?_
  show own_Go _ _ _ _ s₁ (mkF m 3 #[.val (.int p_1), .val (.int p_2), .unset, .unset, .unset, .unset, .unset, .unset, .unset] [(.int (2147483647 : Int32)), (.int p_1)])
  refine own_go (fun _ k => XS.iand X0.here hx rfl (hb hby at_3) rfl k) ?_
  show own_Go _ _ _ _ s₁ (mkF m 4 #[.val (.int p_1), .val (.int p_2), .unset, .unset, .unset, .unset, .unset, .unset, .unset] [(.int (p_1 &&& (2147483647 : Int32)))])
  refine own_go (fun _ k => XS.istoreN X0.here hx rfl (hb hby at_4) rfl (l' := #[.val (.int p_1), .val (.int p_2), .val (.int (p_1 &&& (2147483647 : Int32))), .unset, .unset, .unset, .unset, .unset, .unset]) rfl k) ?_
  show own_Go _ _ _ _ s₁ (mkF m 5 #[.val (.int p_1), .val (.int p_2), .val (.int (p_1 &&& (2147483647 : Int32))), .unset, .unset, .unset, .unset, .unset, .unset] [])
  generalize hdv1 : (p_1 &&& (2147483647 : Int32)) = v1
  show own_Go _ _ _ _ s₁ (mkF m 5 #[.val (.int p_1), .val (.int p_2), .val (.int v1), .unset, .unset, .unset, .unset, .unset, .unset] [])
  refine own_go (fun _ k => XS.iloadN X0.here hx rfl (hb hby at_5) rfl k) ?_
  show own_Go _ _ _ _ s₁ (mkF m 6 #[.val (.int p_1), .val (.int p_2), .val (.int v1), .unset, .unset, .unset, .unset, .unset, .unset] [(.int p_2)])
  refine own_go (fun _ k => XS.iconst X0.here hx rfl (hb hby at_6) k) ?_
  show own_Go _ _ _ _ s₁ (mkF m 7 #[.val (.int p_1), .val (.int p_2), .val (.int v1), .unset, .unset, .unset, .unset, .unset, .unset] [(.int (1 : Int32)), (.int p_2)])
  refine own_go (fun _ k => XS.iand X0.here hx rfl (hb hby at_7) rfl k) ?_
  show own_Go _ _ _ _ s₁ (mkF m 8 #[.val (.int p_1), .val (.int p_2), .val (.int v1), .unset, .unset, .unset, .unset, .unset, .unset] [(.int (p_2 &&& (1 : Int32)))])
  by_cases hc2 : (p_2 &&& (1 : Int32)) = 0
  · refine own_go (fun _ k => XS.ifYes X0.here hx rfl (pc0 := 8) (pc' := 15) rfl (hb hby at_8) rfl (Jvm.Free.XT.i0_eq_t hc2) (by decide) (by decide) k) ?_
    show own_Go _ _ _ _ s₁ (mkF m 15 #[.val (.int p_1), .val (.int p_2), .val (.int v1), .unset, .unset, .unset, .unset, .unset, .unset] [])
    refine own_go (fun _ k => XS.iconst X0.here hx rfl (hb hby at_15) k) ?_
    show own_Go _ _ _ _ s₁ (mkF m 16 #[.val (.int p_1), .val (.int p_2), .val (.int v1), .unset, .unset, .unset, .unset, .unset, .unset] [(.int (0 : Int32))])
    refine own_go (fun _ k => XS.istoreN X0.here hx rfl (hb hby at_16) rfl (l' := #[.val (.int p_1), .val (.int p_2), .val (.int v1), .val (.int (0 : Int32)), .unset, .unset, .unset, .unset, .unset]) rfl k) ?_
    show own_Go _ _ _ _ s₁ (mkF m 17 #[.val (.int p_1), .val (.int p_2), .val (.int v1), .val (.int (0 : Int32)), .unset, .unset, .unset, .unset, .unset] [])
    refine own_go (fun _ k => XS.iloadN X0.here hx rfl (hb hby at_17) rfl k) ?_
    show own_Go _ _ _ _ s₁ (mkF m 18 #[.val (.int p_1), .val (.int p_2), .val (.int v1), .val (.int (0 : Int32)), .unset, .unset, .unset, .unset, .unset] [(.int p_2)])
    refine own_go (fun _ k => XS.iconst X0.here hx rfl (hb hby at_18) k) ?_
    show own_Go _ _ _ _ s₁ (mkF m 19 #[.val (.int p_1), .val (.int p_2), .val (.int v1), .val (.int (0 : Int32)), .unset, .unset, .unset, .unset, .unset] [(.int (1 : Int32)), (.int p_2)])
    refine own_go (fun _ k => XS.iushr X0.here hx rfl (hb hby at_19) rfl k) ?_
    show own_Go _ _ _ _ s₁ (mkF m 20 #[.val (.int p_1), .val (.int p_2), .val (.int v1), .val (.int (0 : Int32)), .unset, .unset, .unset, .unset, .unset] [(.int ((p_2.toUInt32 >>> ((1 : Int32) &&& 31).toUInt32).toInt32))])
    refine own_go (fun _ k => XS.sipush X0.here hx rfl (hb hby at_20) k) ?_
    show own_Go _ _ _ _ s₁ (mkF m 23 #[.val (.int p_1), .val (.int p_2), .val (.int v1), .val (.int (0 : Int32)), .unset, .unset, .unset, .unset, .unset] [(.int (16383 : Int32)), (.int ((p_2.toUInt32 >>> ((1 : Int32) &&& 31).toUInt32).toInt32))])
    refine own_go (fun _ k => XS.iand X0.here hx rfl (hb hby at_23) rfl k) ?_
    show own_Go _ _ _ _ s₁ (mkF m 24 #[.val (.int p_1), .val (.int p_2), .val (.int v1), .val (.int (0 : Int32)), .unset, .unset, .unset, .unset, .unset] [(.int (((p_2.toUInt32 >>> ((1 : Int32) &&& 31).toUInt32).toInt32) &&& (16383 : Int32)))])
    refine own_go (fun _ k => XS.istore X0.here hx rfl (hb hby at_24) rfl (l' := #[.val (.int p_1), .val (.int p_2), .val (.int v1), .val (.int (0 : Int32)), .val (.int (((p_2.toUInt32 >>> ((1 : Int32) &&& 31).toUInt32).toInt32) &&& (16383 : Int32))), .unset, .unset, .unset, .unset]) rfl k) ?_
    show own_Go _ _ _ _ s₁ (mkF m 26 #[.val (.int p_1), .val (.int p_2), .val (.int v1), .val (.int (0 : Int32)), .val (.int (((p_2.toUInt32 >>> ((1 : Int32) &&& 31).toUInt32).toInt32) &&& (16383 : Int32))), .unset, .unset, .unset, .unset] [])
    generalize hdv3 : (((p_2.toUInt32 >>> ((1 : Int32) &&& 31).toUInt32).toInt32) &&& (16383 : Int32)) = v3
    show own_Go _ _ _ _ s₁ (mkF m 26 #[.val (.int p_1), .val (.int p_2), .val (.int v1), .val (.int (0 : Int32)), .val (.int v3), .unset, .unset, .unset, .unset] [])
    refine own_go (fun _ k => XS.iloadN X0.here hx rfl (hb hby at_26) rfl k) ?_
    show own_Go _ _ _ _ s₁ (mkF m 27 #[.val (.int p_1), .val (.int p_2), .val (.int v1), .val (.int (0 : Int32)), .val (.int v3), .unset, .unset, .unset, .unset] [(.int (0 : Int32))])
    have hc4 : (0 : Int32) = 0 := by decide
    refine own_go (fun _ k => XS.ifYes X0.here hx rfl (pc0 := 27) (pc' := 37) rfl (hb hby at_27) rfl (Jvm.Free.XT.i0_eq_t hc4) (by decide) (by decide) k) ?_
    show own_Go _ _ _ _ s₁ (mkF m 37 #[.val (.int p_1), .val (.int p_2), .val (.int v1), .val (.int (0 : Int32)), .val (.int v3), .unset, .unset, .unset, .unset] [])
    refine own_go (fun _ k => XS.aconstNull X0.here hx rfl (hb hby at_37) k) ?_
    show own_Go _ _ _ _ s₁ (mkF m 38 #[.val (.int p_1), .val (.int p_2), .val (.int v1), .val (.int (0 : Int32)), .val (.int v3), .unset, .unset, .unset, .unset] [.null])
    refine own_go (fun _ k => XS.astore X0.here hx rfl (hb hby at_38) rfl rfl (l' := #[.val (.int p_1), .val (.int p_2), .val (.int v1), .val (.int (0 : Int32)), .val (.int v3), .val .null, .unset, .unset, .unset]) rfl k) ?_
    show own_Go _ _ _ _ s₁ (mkF m 40 #[.val (.int p_1), .val (.int p_2), .val (.int v1), .val (.int (0 : Int32)), .val (.int v3), .val .null, .unset, .unset, .unset] [])
    refine own_go (fun _ k => XS.iloadN X0.here hx rfl (hb hby at_40) rfl k) ?_
    show own_Go _ _ _ _ s₁ (mkF m 41 #[.val (.int p_1), .val (.int p_2), .val (.int v1), .val (.int (0 : Int32)), .val (.int v3), .val .null, .unset, .unset, .unset] [(.int (0 : Int32))])
    have hc5 : (0 : Int32) = 0 := by decide
    refine own_go (fun _ k => XS.ifYes X0.here hx rfl (pc0 := 41) (pc' := 55) rfl (hb hby at_41) rfl (Jvm.Free.XT.i0_eq_t hc5) (by decide) (by decide) k) ?_
    show own_Go _ _ _ _ s₁ (mkF m 55 #[.val (.int p_1), .val (.int p_2), .val (.int v1), .val (.int (0 : Int32)), .val (.int v3), .val .null, .unset, .unset, .unset] [])
    refine own_go (fun _ k => XS.iconst X0.here hx rfl (hb hby at_55) k) ?_
    show own_Go _ _ _ _ s₁ (mkF m 56 #[.val (.int p_1), .val (.int p_2), .val (.int v1), .val (.int (0 : Int32)), .val (.int v3), .val .null, .unset, .unset, .unset] [(.int (1 : Int32))])
    refine own_go (fun _ k => XS.istore X0.here hx rfl (hb hby at_56) rfl (l' := #[.val (.int p_1), .val (.int p_2), .val (.int v1), .val (.int (0 : Int32)), .val (.int v3), .val .null, .val (.int (1 : Int32)), .unset, .unset]) rfl k) ?_
    show own_Go _ _ _ _ s₁ (mkF m 58 #[.val (.int p_1), .val (.int p_2), .val (.int v1), .val (.int (0 : Int32)), .val (.int v3), .val .null, .val (.int (1 : Int32)), .unset, .unset] [])
    refine own_go (fun _ k => XS.iloadN X0.here hx rfl (hb hby at_58) rfl k) ?_
    show own_Go _ _ _ _ s₁ (mkF m 59 #[.val (.int p_1), .val (.int p_2), .val (.int v1), .val (.int (0 : Int32)), .val (.int v3), .val .null, .val (.int (1 : Int32)), .unset, .unset] [(.int v1)])
    refine own_go (fun _ k => XS.bipush X0.here hx rfl (hb hby at_59) k) ?_
    show own_Go _ _ _ _ s₁ (mkF m 61 #[.val (.int p_1), .val (.int p_2), .val (.int v1), .val (.int (0 : Int32)), .val (.int v3), .val .null, .val (.int (1 : Int32)), .unset, .unset] [(.int (82 : Int32)), (.int v1)])
    refine own_go (fun _ k => XS.isub X0.here hx rfl (hb hby at_61) rfl k) ?_
    show own_Go _ _ _ _ s₁ (mkF m 62 #[.val (.int p_1), .val (.int p_2), .val (.int v1), .val (.int (0 : Int32)), .val (.int v3), .val .null, .val (.int (1 : Int32)), .unset, .unset] [(.int (v1 - (82 : Int32)))])
    refine own_go (fun _ k => XS.iload X0.here hx rfl (hb hby at_62) rfl k) ?_
    show own_Go _ _ _ _ s₁ (mkF m 64 #[.val (.int p_1), .val (.int p_2), .val (.int v1), .val (.int (0 : Int32)), .val (.int v3), .val .null, .val (.int (1 : Int32)), .unset, .unset] [(.int (1 : Int32)), (.int (v1 - (82 : Int32)))])
    refine own_go (fun _ k => XS.isub X0.here hx rfl (hb hby at_64) rfl k) ?_
    show own_Go _ _ _ _ s₁ (mkF m 65 #[.val (.int p_1), .val (.int p_2), .val (.int v1), .val (.int (0 : Int32)), .val (.int v3), .val .null, .val (.int (1 : Int32)), .unset, .unset] [(.int ((v1 - (82 : Int32)) - (1 : Int32)))])
    refine own_go (fun _ k => XS.iconst X0.here hx rfl (hb hby at_65) k) ?_
    show own_Go _ _ _ _ s₁ (mkF m 66 #[.val (.int p_1), .val (.int p_2), .val (.int v1), .val (.int (0 : Int32)), .val (.int v3), .val .null, .val (.int (1 : Int32)), .unset, .unset] [(.int (1 : Int32)), (.int ((v1 - (82 : Int32)) - (1 : Int32)))])
    refine own_go (fun _ k => XS.isub X0.here hx rfl (hb hby at_66) rfl k) ?_
    show own_Go _ _ _ _ s₁ (mkF m 67 #[.val (.int p_1), .val (.int p_2), .val (.int v1), .val (.int (0 : Int32)), .val (.int v3), .val .null, .val (.int (1 : Int32)), .unset, .unset] [(.int (((v1 - (82 : Int32)) - (1 : Int32)) - (1 : Int32)))])
    refine own_go (fun _ k => XS.istore X0.here hx rfl (hb hby at_67) rfl (l' := #[.val (.int p_1), .val (.int p_2), .val (.int v1), .val (.int (0 : Int32)), .val (.int v3), .val .null, .val (.int (1 : Int32)), .val (.int (((v1 - (82 : Int32)) - (1 : Int32)) - (1 : Int32))), .unset]) rfl k) ?_
    show own_Go _ _ _ _ s₁ (mkF m 69 #[.val (.int p_1), .val (.int p_2), .val (.int v1), .val (.int (0 : Int32)), .val (.int v3), .val .null, .val (.int (1 : Int32)), .val (.int (((v1 - (82 : Int32)) - (1 : Int32)) - (1 : Int32))), .unset] [])
    generalize hdv6 : (((v1 - (82 : Int32)) - (1 : Int32)) - (1 : Int32)) = v6
    show own_Go _ _ _ _ s₁ (mkF m 69 #[.val (.int p_1), .val (.int p_2), .val (.int v1), .val (.int (0 : Int32)), .val (.int v3), .val .null, .val (.int (1 : Int32)), .val (.int v6), .unset] [])
    obtain ⟨T7, h7, X7, e7, E7, A7, D7, Y7, st7⟩ := newO X0 hx hZ hown (hw _ (List.mem_of_getElem? (i := 6) rfl)) (hw _ (List.mem_of_getElem? (i := 7) rfl)) (hw _ (List.mem_of_getElem? (i := 8) rfl)) e0 (g := (mkF m 69 #[.val (.int p_1), .val (.int p_2), .val (.int v1), .val (.int (0 : Int32)), .val (.int v3), .val .null, .val (.int (1 : Int32)), .val (.int v6), .unset] [])) rfl (hb hby at_69) (by decide) (by decide)
    obtain ⟨b7, g7⟩ : ∃ z, z = h0.size := ⟨_, rfl⟩
    rw [← g7] at A7 D7 Y7 st7
    have z8 := E7.1
    have lt_b7 := own_lt A7.lt
    have F_largestRecord_b7 : Fld Z h7 b7 "com/example/fencepost/fencepost/connector/RecordLimit" "largestRecord" "I" (.int (0 : Int32)) := D7 (Or.inr (hw _ (List.mem_of_getElem? (i := 28) rfl))) (ty := .int) (by decide)
    have F_setting_b7 : Fld Z h7 b7 "com/example/fencepost/fencepost/connector/RecordLimit" "setting" "Ljava/lang/String;" .null := D7 (Or.inr (hw _ (List.mem_of_getElem? (i := 30) rfl))) (ty := (.object "java/lang/String")) (by decide)
    have F_topic_b7 : Fld Z h7 b7 "com/example/fencepost/fencepost/connector/RecordLimit" "topic" "Ljava/lang/String;" .null := D7 (Or.inr (hw _ (List.mem_of_getElem? (i := 32) rfl))) (ty := (.object "java/lang/String")) (by decide)
    refine own_go (fun _ k => st7 _ k) ?_
    show own_Go _ _ _ _ T7 (mkF m 72 #[.val (.int p_1), .val (.int p_2), .val (.int v1), .val (.int (0 : Int32)), .val (.int v3), .val .null, .val (.int (1 : Int32)), .val (.int v6), .unset] [(.ref b7)])
    refine own_go (fun _ k => XS.dup X7.here hx rfl (hb hby at_72) rfl rfl k) ?_
    show own_Go _ _ _ _ T7 (mkF m 73 #[.val (.int p_1), .val (.int p_2), .val (.int v1), .val (.int (0 : Int32)), .val (.int v3), .val .null, .val (.int (1 : Int32)), .val (.int v6), .unset] [(.ref b7), (.ref b7)])
    refine own_go (fun _ k => XS.iloadN X7.here hx rfl (hb hby at_73) rfl k) ?_
    show own_Go _ _ _ _ T7 (mkF m 74 #[.val (.int p_1), .val (.int p_2), .val (.int v1), .val (.int (0 : Int32)), .val (.int v3), .val .null, .val (.int (1 : Int32)), .val (.int v6), .unset] [(.int v1), (.ref b7), (.ref b7)])
    obtain ⟨b9, T9, h9, k9, X9, e9, E9, hS9, g9, hZ, hown, Li9, Wn9, st9⟩ := own_ldcSL X7 hx hZ hown (hw _ (List.mem_of_getElem? (i := 9) rfl)) (own_wS hw) e7 hS0 (by omega) (g := (mkF m 74 #[.val (.int p_1), .val (.int p_2), .val (.int v1), .val (.int (0 : Int32)), .val (.int v3), .val .null, .val (.int (1 : Int32)), .val (.int v6), .unset] [(.int v1), (.ref b7), (.ref b7)])) rfl (hb hby at_74) (n := 64) (by decide +kernel) (by decide) (by decide) (by decide)
    have z10 := E9.1
    refine own_go (fun _ k => st9 _ k) ?_
    show own_Go _ _ _ _ T9 (mkF m 76 #[.val (.int p_1), .val (.int p_2), .val (.int v1), .val (.int (0 : Int32)), .val (.int v3), .val .null, .val (.int (1 : Int32)), .val (.int v6), .unset] [(.ref b9), (.int v1), (.ref b7), (.ref b7)])
    refine own_go (fun _ k => XS.aconstNull X9.here hx rfl (hb hby at_76) k) ?_
    show own_Go _ _ _ _ T9 (mkF m 77 #[.val (.int p_1), .val (.int p_2), .val (.int v1), .val (.int (0 : Int32)), .val (.int v3), .val .null, .val (.int (1 : Int32)), .val (.int v6), .unset] [.null, (.ref b9), (.int v1), (.ref b7), (.ref b7)])
    have f11 : Exa Z h9 b7 "com/example/fencepost/fencepost/connector/RecordLimit" := (A7.ext E9)
    have f12 : Fld Z h9 b7 "com/example/fencepost/fencepost/connector/RecordLimit" "largestRecord" "I" (.int (0 : Int32)) := (F_largestRecord_b7.ext E9)
    have f13 : Fld Z h9 b7 "com/example/fencepost/fencepost/connector/RecordLimit" "setting" "Ljava/lang/String;" .null := (F_setting_b7.ext E9)
    have f14 : Fld Z h9 b7 "com/example/fencepost/fencepost/connector/RecordLimit" "topic" "Ljava/lang/String;" .null := (F_topic_b7.ext E9)
    obtain ⟨_, _, ⟨T15, L15, k15, n15⟩, -, X15, ⟨Lc15, hQ15, l15, y15, z15⟩, st15⟩ := X9.specialBack hx (y := (⟨"com/example/fencepost/fencepost/connector/RecordLimit", "<init>", "(ILjava/lang/String;Ljava/lang/String;)V"⟩ : MethodName)) rfl hown (mvT hZ (hw _ (List.mem_of_getElem? (i := 16) rfl))) (mvT hZ (hw _ (List.mem_of_getElem? (i := 17) rfl))) (mvT hZ (hw _ (List.mem_of_getElem? (i := 18) rfl))) (by decide) (backOf (W := 1) (own_rm2 l Z a0 hw [] b7 v1 b9 (0 : Int32) .null .null h9 n0 (by omega) f11 f12 f13 f14 (by omega)) hZ (hw _ (List.mem_of_getElem? (i := 18) rfl)) (hw _ (List.mem_of_getElem? (i := 8) rfl)) (by decide) (by decide)) (g := (mkF m 77 #[.val (.int p_1), .val (.int p_2), .val (.int v1), .val (.int (0 : Int32)), .val (.int v3), .val .null, .val (.int (1 : Int32)), .val (.int v6), .unset] [.null, (.ref b9), (.int v1), (.ref b7), (.ref b7)])) rfl (by rw [hml]; rfl) (Steps.refl _) (a := b7) (argsL := [(.int v1), (.ref b9), .null]) (rest := [(.ref b7)]) (lenOf own_pd4 rfl) rfl (by show 2 * 0 + _ ≤ _; exact Nat.le_of_eq rfl) (hb hby at_77) (fun _ _ => ⟨rfl, e9, (by decide : 3 + 0 ≤ _), (by decide : 71 + 0 ≤ _)⟩)
    dsimp only [Pt.U, Pt.locs, Pt.cells, Pt.slots] at X15 l15 y15 z15 st15 hQ15
    have y15 : k15 = 3 := y15
    have z15 : n15 = 71 := z15
    obtain ⟨rfl, N15q, K15q, f16, f17, f18, f19⟩ := hQ15
    have N15 : Fr n0 L15 := by rw [l15]; exact Fr.app N0 N15q
    have z20 := K15q.1
    have z21 := own_lt f16.lt
    have z22 := own_lt f17.lt
    have z23 := own_lt f18.lt
    have z24 := own_lt f19.lt
    refine own_go (fun _ k => st15.trans k) ?_
    show own_Go _ _ _ _ T15 (mkF m 80 #[.val (.int p_1), .val (.int p_2), .val (.int v1), .val (.int (0 : Int32)), .val (.int v3), .val .null, .val (.int (1 : Int32)), .val (.int v6), .unset] [(.ref b7)])
    refine own_go (fun _ k => XS.astore X15.here hx rfl (hb hby at_80) rfl rfl (l' := #[.val (.int p_1), .val (.int p_2), .val (.int v1), .val (.int (0 : Int32)), .val (.int v3), .val .null, .val (.int (1 : Int32)), .val (.int v6), .val (.ref b7)]) rfl k) ?_
    show own_Go _ _ _ _ T15 (mkF m 82 #[.val (.int p_1), .val (.int p_2), .val (.int v1), .val (.int (0 : Int32)), .val (.int v3), .val .null, .val (.int (1 : Int32)), .val (.int v6), .val (.ref b7)] [])
    refine own_go (fun _ k => XS.aload X15.here hx rfl (hb hby at_82) rfl rfl k) ?_
    show own_Go _ _ _ _ T15 (mkF m 84 #[.val (.int p_1), .val (.int p_2), .val (.int v1), .val (.int (0 : Int32)), .val (.int v3), .val .null, .val (.int (1 : Int32)), .val (.int v6), .val (.ref b7)] [(.ref b7)])
    refine own_go (fun _ k => XS.aload X15.here hx rfl (hb hby at_84) rfl rfl k) ?_
    show own_Go _ _ _ _ T15 (mkF m 86 #[.val (.int p_1), .val (.int p_2), .val (.int v1), .val (.int (0 : Int32)), .val (.int v3), .val .null, .val (.int (1 : Int32)), .val (.int v6), .val (.ref b7)] [.null, (.ref b7)])
    have hlr : 0 ≤ v1.toInt := own_t0_0 p_1 v1 v6 hdv1 hdv6
    have hzz : 0 ≤ v3.toInt ∧ v3.toInt ≤ 16383 := own_t0_1 p_2 v3 hc2 hdv3
    obtain ⟨cq25, kq25, q25a, q25b, q25c⟩ := isOf hZ rfl f16
    obtain ⟨_, _, ⟨T25, L25, k25, n25⟩, -, X25, ⟨Lc25, hQ25, l25, y25, z25⟩, st25⟩ := X15.virtualBack hx (y := (⟨"com/example/fencepost/fencepost/connector/RecordLimit", "largestValue", "([B)I"⟩ : MethodName)) (z := (⟨"com/example/fencepost/fencepost/connector/RecordLimit", "largestValue", "([B)I"⟩ : MethodName)) hown (mvT hZ (hw _ (List.mem_of_getElem? (i := 33) rfl))) (mvT hZ (hw _ (List.mem_of_getElem? (i := 34) rfl))) (notFace_of_selects (args := #[]) (mvT hZ (hw _ (List.mem_of_getElem? (i := 36) rfl)))) (mvT hZ (hw _ (List.mem_of_getElem? (i := 36) rfl))) (mvT hZ (hw _ (List.mem_of_getElem? (i := 35) rfl))) (by decide) (backOf (W := 0) (own_rm5n l Z a0 hw [] b7 v1 T15.heap n0 (by omega) f16 f17 (own_t0_2 v1 hlr)) hZ (hw _ (List.mem_of_getElem? (i := 37) rfl)) (hw _ (List.mem_of_getElem? (i := 8) rfl)) (by decide) (by decide)) q25a q25c (g := (mkF m 86 #[.val (.int p_1), .val (.int p_2), .val (.int v1), .val (.int (0 : Int32)), .val (.int v3), .val .null, .val (.int (1 : Int32)), .val (.int v6), .val (.ref b7)] [.null, (.ref b7)])) rfl (by rw [hml]; rfl) (Steps.refl _) (argsL := [.null]) (rest := []) (lenOf own_pd2 rfl) rfl (by show 2 * 0 + _ ≤ _; exact Nat.le_of_eq rfl) (hb hby at_86) (fun _ _ => ⟨rfl, rfl, (by show k15 + _ ≤ _; rw [y15]; decide), (by show n15 + _ ≤ _; rw [z15]; decide)⟩)
    dsimp only [Pt.U, Pt.locs, Pt.cells, Pt.slots] at X25 l25 y25 z25 st25 hQ25
    have y25 : k25 = 3 := own_addeq y25 (congrArg (fun q => q) y15) rfl
    have z25 : n25 = 71 := own_addeq z25 (congrArg (fun q => q) z15) rfl
    obtain ⟨r26, rfl, N25q, hr_r26, e25⟩ := hQ25
    have N25 : Fr n0 L25 := by rw [l25]; exact Fr.app N15 N25q
    refine own_go (fun _ k => st25.trans k) ?_
    show own_Go _ _ _ _ T25 (mkF m 89 #[.val (.int p_1), .val (.int p_2), .val (.int v1), .val (.int (0 : Int32)), .val (.int v3), .val .null, .val (.int (1 : Int32)), .val (.int v6), .val (.ref b7)] [(.int r26)])
    refine own_go (fun _ k => XS.iload X25.here hx rfl (hb hby at_89) rfl k) ?_
    show own_Go _ _ _ _ T25 (mkF m 91 #[.val (.int p_1), .val (.int p_2), .val (.int v1), .val (.int (0 : Int32)), .val (.int v3), .val .null, .val (.int (1 : Int32)), .val (.int v6), .val (.ref b7)] [(.int v6), (.int r26)])
    obtain ⟨_, _, ⟨T27, L27, k27, n27⟩, -, X27, ⟨Lc27, hQ27, l27, y27, z27⟩, st27⟩ := Jvm.LawKit.callS X25 hx (y := (⟨"com/example/fencepost/fencepost/connector/RecordLimitLargestValuePinLaw", "expected", "(I)I"⟩ : MethodName)) hown (mvT hZ (hw _ (List.mem_of_getElem? (i := 57) rfl))) (mvT hZ (hw _ (List.mem_of_getElem? (i := 58) rfl))) (mvT hZ (hw _ (List.mem_of_getElem? (i := 4) rfl))) (mvT hZ (hw _ (List.mem_of_getElem? (i := 59) rfl))) (by decide) (backOf (W := 1) (own_rm11 l Z a0 hw [] v6  T15.heap n0 (by omega) ) hZ (hw _ (List.mem_of_getElem? (i := 59) rfl)) (hw _ (List.mem_of_getElem? (i := 4) rfl)) (by decide) (by decide)) (g := (mkF m 91 #[.val (.int p_1), .val (.int p_2), .val (.int v1), .val (.int (0 : Int32)), .val (.int v3), .val .null, .val (.int (1 : Int32)), .val (.int v6), .val (.ref b7)] [(.int v6), (.int r26)])) rfl (by rw [hml]; rfl) (argsL := [(.int v6)]) (rest := [(.int r26)]) (lenOf own_pd0 rfl) rfl (by show 2 * 0 + _ ≤ _; exact Nat.le_of_eq rfl) (hb hby at_91) (fun _ _ => ⟨rfl, e25, (by show k25 + _ ≤ _; rw [y25]; decide), (by show n25 + _ ≤ _; rw [z25]; decide)⟩)
    dsimp only [Pt.U, Pt.locs, Pt.cells, Pt.slots] at X27 l27 y27 z27 st27 hQ27
    have y27 : k27 = 3 := own_addeq y27 (congrArg (fun q => q) y25) rfl
    have z27 : n27 = 71 := own_addeq z27 (congrArg (fun q => q) z25) rfl
    obtain ⟨r28, rfl, N27q, hr_r28, e27⟩ := hQ27
    have N27 : Fr n0 L27 := by rw [l27]; exact Fr.app N25 N27q
    refine own_go (fun _ k => st27 _ k) ?_
    show own_Go _ _ _ _ T27 (mkF m 94 #[.val (.int p_1), .val (.int p_2), .val (.int v1), .val (.int (0 : Int32)), .val (.int v3), .val .null, .val (.int (1 : Int32)), .val (.int v6), .val (.ref b7)] [(.int r28), (.int r26)])
    have hc29 : r26 = r28 := own_t0_3 p_1 v1 v6 r26 r28 hdv1 hdv6 hlr hr_r26 hr_r28
    refine own_go (fun _ k => XS.icmpNo X27.here hx rfl (hb hby at_94) rfl (Jvm.Free.XT.ii_ne_f hc29) k) ?_
    show own_Go _ _ _ _ T27 (mkF m 97 #[.val (.int p_1), .val (.int p_2), .val (.int v1), .val (.int (0 : Int32)), .val (.int v3), .val .null, .val (.int (1 : Int32)), .val (.int v6), .val (.ref b7)] [])
    refine own_go (fun _ k => XS.iconst X27.here hx rfl (hb hby at_97) k) ?_
    show own_Go _ _ _ _ T27 (mkF m 98 #[.val (.int p_1), .val (.int p_2), .val (.int v1), .val (.int (0 : Int32)), .val (.int v3), .val .null, .val (.int (1 : Int32)), .val (.int v6), .val (.ref b7)] [(.int (1 : Int32))])
    refine own_go (fun _ k => XS.goto X27.here hx rfl (pc0 := 98) (pc' := 102) rfl (hb hby at_98) (by decide) (by decide) k) ?_
    show own_Go _ _ _ _ T27 (mkF m 102 #[.val (.int p_1), .val (.int p_2), .val (.int v1), .val (.int (0 : Int32)), .val (.int v3), .val .null, .val (.int (1 : Int32)), .val (.int v6), .val (.ref b7)] [(.int (1 : Int32))])
    obtain ⟨fs, hr, hrun, hended, hRW⟩ := X27.leaveW hS9 (by rw [e27]; omega) (v := some (.int (1 : Int32))) (fun h => by rw [Bd.returns] at h; cases h)
    refine ⟨_, _, retOut X27 hx Bd.returns rfl (Or.inl ⟨rfl, Or.inr (Or.inl rfl), _, rfl⟩) (hb hby at_102) hr, hrun, hended, _, _, rfl, ?_, own_monoW hRW (by rw [y27]; decide) (by rw [z27]; decide)⟩
    show own_Q0 Z p_1 p_2 h0 n0 _ T27.heap _
    rw [e27]
    exact ⟨rfl, N27⟩
  · refine own_go (fun _ k => XS.ifNo X0.here hx rfl (hb hby at_8) rfl (Jvm.Free.XT.i0_eq_f hc2) k) ?_
    show own_Go _ _ _ _ s₁ (mkF m 11 #[.val (.int p_1), .val (.int p_2), .val (.int v1), .unset, .unset, .unset, .unset, .unset, .unset] [])
    refine own_go (fun _ k => XS.iconst X0.here hx rfl (hb hby at_11) k) ?_
    show own_Go _ _ _ _ s₁ (mkF m 12 #[.val (.int p_1), .val (.int p_2), .val (.int v1), .unset, .unset, .unset, .unset, .unset, .unset] [(.int (1 : Int32))])
    refine own_go (fun _ k => XS.goto X0.here hx rfl (pc0 := 12) (pc' := 16) rfl (hb hby at_12) (by decide) (by decide) k) ?_
    show own_Go _ _ _ _ s₁ (mkF m 16 #[.val (.int p_1), .val (.int p_2), .val (.int v1), .unset, .unset, .unset, .unset, .unset, .unset] [(.int (1 : Int32))])
    refine own_go (fun _ k => XS.istoreN X0.here hx rfl (hb hby at_16) rfl (l' := #[.val (.int p_1), .val (.int p_2), .val (.int v1), .val (.int (1 : Int32)), .unset, .unset, .unset, .unset, .unset]) rfl k) ?_
    show own_Go _ _ _ _ s₁ (mkF m 17 #[.val (.int p_1), .val (.int p_2), .val (.int v1), .val (.int (1 : Int32)), .unset, .unset, .unset, .unset, .unset] [])
    refine own_go (fun _ k => XS.iloadN X0.here hx rfl (hb hby at_17) rfl k) ?_
    show own_Go _ _ _ _ s₁ (mkF m 18 #[.val (.int p_1), .val (.int p_2), .val (.int v1), .val (.int (1 : Int32)), .unset, .unset, .unset, .unset, .unset] [(.int p_2)])
    refine own_go (fun _ k => XS.iconst X0.here hx rfl (hb hby at_18) k) ?_
    show own_Go _ _ _ _ s₁ (mkF m 19 #[.val (.int p_1), .val (.int p_2), .val (.int v1), .val (.int (1 : Int32)), .unset, .unset, .unset, .unset, .unset] [(.int (1 : Int32)), (.int p_2)])
    refine own_go (fun _ k => XS.iushr X0.here hx rfl (hb hby at_19) rfl k) ?_
    show own_Go _ _ _ _ s₁ (mkF m 20 #[.val (.int p_1), .val (.int p_2), .val (.int v1), .val (.int (1 : Int32)), .unset, .unset, .unset, .unset, .unset] [(.int ((p_2.toUInt32 >>> ((1 : Int32) &&& 31).toUInt32).toInt32))])
    refine own_go (fun _ k => XS.sipush X0.here hx rfl (hb hby at_20) k) ?_
    show own_Go _ _ _ _ s₁ (mkF m 23 #[.val (.int p_1), .val (.int p_2), .val (.int v1), .val (.int (1 : Int32)), .unset, .unset, .unset, .unset, .unset] [(.int (16383 : Int32)), (.int ((p_2.toUInt32 >>> ((1 : Int32) &&& 31).toUInt32).toInt32))])
    refine own_go (fun _ k => XS.iand X0.here hx rfl (hb hby at_23) rfl k) ?_
    show own_Go _ _ _ _ s₁ (mkF m 24 #[.val (.int p_1), .val (.int p_2), .val (.int v1), .val (.int (1 : Int32)), .unset, .unset, .unset, .unset, .unset] [(.int (((p_2.toUInt32 >>> ((1 : Int32) &&& 31).toUInt32).toInt32) &&& (16383 : Int32)))])
    refine own_go (fun _ k => XS.istore X0.here hx rfl (hb hby at_24) rfl (l' := #[.val (.int p_1), .val (.int p_2), .val (.int v1), .val (.int (1 : Int32)), .val (.int (((p_2.toUInt32 >>> ((1 : Int32) &&& 31).toUInt32).toInt32) &&& (16383 : Int32))), .unset, .unset, .unset, .unset]) rfl k) ?_
    show own_Go _ _ _ _ s₁ (mkF m 26 #[.val (.int p_1), .val (.int p_2), .val (.int v1), .val (.int (1 : Int32)), .val (.int (((p_2.toUInt32 >>> ((1 : Int32) &&& 31).toUInt32).toInt32) &&& (16383 : Int32))), .unset, .unset, .unset, .unset] [])
    generalize hdv31 : (((p_2.toUInt32 >>> ((1 : Int32) &&& 31).toUInt32).toInt32) &&& (16383 : Int32)) = v31
    show own_Go _ _ _ _ s₁ (mkF m 26 #[.val (.int p_1), .val (.int p_2), .val (.int v1), .val (.int (1 : Int32)), .val (.int v31), .unset, .unset, .unset, .unset] [])
    refine own_go (fun _ k => XS.iloadN X0.here hx rfl (hb hby at_26) rfl k) ?_
    show own_Go _ _ _ _ s₁ (mkF m 27 #[.val (.int p_1), .val (.int p_2), .val (.int v1), .val (.int (1 : Int32)), .val (.int v31), .unset, .unset, .unset, .unset] [(.int (1 : Int32))])
    have hc32 : ¬ ((1 : Int32) = 0) := by decide
    refine own_go (fun _ k => XS.ifNo X0.here hx rfl (hb hby at_27) rfl (Jvm.Free.XT.i0_eq_f hc32) k) ?_
    show own_Go _ _ _ _ s₁ (mkF m 30 #[.val (.int p_1), .val (.int p_2), .val (.int v1), .val (.int (1 : Int32)), .val (.int v31), .unset, .unset, .unset, .unset] [])
    refine own_go (fun _ k => XS.iload X0.here hx rfl (hb hby at_30) rfl k) ?_
    show own_Go _ _ _ _ s₁ (mkF m 32 #[.val (.int p_1), .val (.int p_2), .val (.int v1), .val (.int (1 : Int32)), .val (.int v31), .unset, .unset, .unset, .unset] [(.int v31)])
    obtain ⟨T33, h33, k33, X33, e33, E33, A33, st33⟩ := newP X0 hx hZ (hw _ (List.mem_of_getElem? (i := 1) rfl)) e0 (g := (mkF m 32 #[.val (.int p_1), .val (.int p_2), .val (.int v1), .val (.int (1 : Int32)), .val (.int v31), .unset, .unset, .unset, .unset] [(.int v31)])) rfl (hb hby at_32) rfl (own_t0_4 p_2 v31 hc2 hdv31) (cap := 16383) (own_clamp (own_t0_5 p_2 v31 hc2 hdv31)) (by decide) (by decide) (by decide)
    obtain ⟨b33, g33⟩ : ∃ z, z = h0.size := ⟨_, rfl⟩
    rw [← g33] at A33 st33
    have z34 := E33.1
    have lt_b33 := own_lt A33.lt
    have V_b33 : own_AV Z h33 b33 .byte v31 (fun _ => (.int (0 : Int32))) := own_AV.new A33 (own_t0_4 p_2 v31 hc2 hdv31)
    refine own_go (fun _ k => st33 _ k) ?_
    show own_Go _ _ _ _ T33 (mkF m 34 #[.val (.int p_1), .val (.int p_2), .val (.int v1), .val (.int (1 : Int32)), .val (.int v31), .unset, .unset, .unset, .unset] [(.ref b33)])
    refine own_go (fun _ k => XS.goto X33.here hx rfl (pc0 := 34) (pc' := 38) rfl (hb hby at_34) (by decide) (by decide) k) ?_
    show own_Go _ _ _ _ T33 (mkF m 38 #[.val (.int p_1), .val (.int p_2), .val (.int v1), .val (.int (1 : Int32)), .val (.int v31), .unset, .unset, .unset, .unset] [(.ref b33)])
    refine own_go (fun _ k => XS.astore X33.here hx rfl (hb hby at_38) rfl rfl (l' := #[.val (.int p_1), .val (.int p_2), .val (.int v1), .val (.int (1 : Int32)), .val (.int v31), .val (.ref b33), .unset, .unset, .unset]) rfl k) ?_
    show own_Go _ _ _ _ T33 (mkF m 40 #[.val (.int p_1), .val (.int p_2), .val (.int v1), .val (.int (1 : Int32)), .val (.int v31), .val (.ref b33), .unset, .unset, .unset] [])
    refine own_go (fun _ k => XS.iloadN X33.here hx rfl (hb hby at_40) rfl k) ?_
    show own_Go _ _ _ _ T33 (mkF m 41 #[.val (.int p_1), .val (.int p_2), .val (.int v1), .val (.int (1 : Int32)), .val (.int v31), .val (.ref b33), .unset, .unset, .unset] [(.int (1 : Int32))])
    have hc35 : ¬ ((1 : Int32) = 0) := by decide
    refine own_go (fun _ k => XS.ifNo X33.here hx rfl (hb hby at_41) rfl (Jvm.Free.XT.i0_eq_f hc35) k) ?_
    show own_Go _ _ _ _ T33 (mkF m 44 #[.val (.int p_1), .val (.int p_2), .val (.int v1), .val (.int (1 : Int32)), .val (.int v31), .val (.ref b33), .unset, .unset, .unset] [])
    refine own_go (fun _ k => XS.iload X33.here hx rfl (hb hby at_44) rfl k) ?_
    show own_Go _ _ _ _ T33 (mkF m 46 #[.val (.int p_1), .val (.int p_2), .val (.int v1), .val (.int (1 : Int32)), .val (.int v31), .val (.ref b33), .unset, .unset, .unset] [(.int v31)])
    obtain ⟨_, _, ⟨T36, L36, k36, n36⟩, -, X36, ⟨Lc36, hQ36, l36, y36, z36⟩, st36⟩ := Jvm.LawKit.callS X33 hx (y := (⟨"com/example/fencepost/fencepost/connector/RecordLimitLargestValuePinLaw", "lenSize", "(I)I"⟩ : MethodName)) hown (mvT hZ (hw _ (List.mem_of_getElem? (i := 2) rfl))) (mvT hZ (hw _ (List.mem_of_getElem? (i := 3) rfl))) (mvT hZ (hw _ (List.mem_of_getElem? (i := 4) rfl))) (mvT hZ (hw _ (List.mem_of_getElem? (i := 5) rfl))) (by decide) (backOf (W := 0) (own_rm1 l Z a0 hw [] v31  h33 n0 (by omega) ) hZ (hw _ (List.mem_of_getElem? (i := 5) rfl)) (hw _ (List.mem_of_getElem? (i := 4) rfl)) (by decide) (by decide)) (g := (mkF m 46 #[.val (.int p_1), .val (.int p_2), .val (.int v1), .val (.int (1 : Int32)), .val (.int v31), .val (.ref b33), .unset, .unset, .unset] [(.int v31)])) rfl (by rw [hml]; rfl) (argsL := [(.int v31)]) (rest := []) (lenOf own_pd0 rfl) rfl (by show 2 * 0 + _ ≤ _; exact Nat.le_of_eq rfl) (hb hby at_46) (fun _ _ => ⟨rfl, e33, (by decide : 1 + 0 ≤ _), (by decide : 16383 + 0 ≤ _)⟩)
    dsimp only [Pt.U, Pt.locs, Pt.cells, Pt.slots] at X36 l36 y36 z36 st36 hQ36
    have y36 : k36 = 1 := y36
    have z36 : n36 = 16383 := z36
    obtain ⟨r37, rfl, N36q, hr_r37, e36⟩ := hQ36
    have N36 : Fr n0 L36 := by rw [l36]; exact Fr.app N0 N36q
    refine own_go (fun _ k => st36 _ k) ?_
    show own_Go _ _ _ _ T36 (mkF m 49 #[.val (.int p_1), .val (.int p_2), .val (.int v1), .val (.int (1 : Int32)), .val (.int v31), .val (.ref b33), .unset, .unset, .unset] [(.int r37)])
    refine own_go (fun _ k => XS.iload X36.here hx rfl (hb hby at_49) rfl k) ?_
    show own_Go _ _ _ _ T36 (mkF m 51 #[.val (.int p_1), .val (.int p_2), .val (.int v1), .val (.int (1 : Int32)), .val (.int v31), .val (.ref b33), .unset, .unset, .unset] [(.int v31), (.int r37)])
    refine own_go (fun _ k => XS.iadd X36.here hx rfl (hb hby at_51) rfl k) ?_
    show own_Go _ _ _ _ T36 (mkF m 52 #[.val (.int p_1), .val (.int p_2), .val (.int v1), .val (.int (1 : Int32)), .val (.int v31), .val (.ref b33), .unset, .unset, .unset] [(.int (r37 + v31))])
    refine own_go (fun _ k => XS.goto X36.here hx rfl (pc0 := 52) (pc' := 56) rfl (hb hby at_52) (by decide) (by decide) k) ?_
    show own_Go _ _ _ _ T36 (mkF m 56 #[.val (.int p_1), .val (.int p_2), .val (.int v1), .val (.int (1 : Int32)), .val (.int v31), .val (.ref b33), .unset, .unset, .unset] [(.int (r37 + v31))])
    refine own_go (fun _ k => XS.istore X36.here hx rfl (hb hby at_56) rfl (l' := #[.val (.int p_1), .val (.int p_2), .val (.int v1), .val (.int (1 : Int32)), .val (.int v31), .val (.ref b33), .val (.int (r37 + v31)), .unset, .unset]) rfl k) ?_
    show own_Go _ _ _ _ T36 (mkF m 58 #[.val (.int p_1), .val (.int p_2), .val (.int v1), .val (.int (1 : Int32)), .val (.int v31), .val (.ref b33), .val (.int (r37 + v31)), .unset, .unset] [])
    generalize hdv38 : (r37 + v31) = v38
    show own_Go _ _ _ _ T36 (mkF m 58 #[.val (.int p_1), .val (.int p_2), .val (.int v1), .val (.int (1 : Int32)), .val (.int v31), .val (.ref b33), .val (.int v38), .unset, .unset] [])
    refine own_go (fun _ k => XS.iloadN X36.here hx rfl (hb hby at_58) rfl k) ?_
    show own_Go _ _ _ _ T36 (mkF m 59 #[.val (.int p_1), .val (.int p_2), .val (.int v1), .val (.int (1 : Int32)), .val (.int v31), .val (.ref b33), .val (.int v38), .unset, .unset] [(.int v1)])
    refine own_go (fun _ k => XS.bipush X36.here hx rfl (hb hby at_59) k) ?_
    show own_Go _ _ _ _ T36 (mkF m 61 #[.val (.int p_1), .val (.int p_2), .val (.int v1), .val (.int (1 : Int32)), .val (.int v31), .val (.ref b33), .val (.int v38), .unset, .unset] [(.int (82 : Int32)), (.int v1)])
    refine own_go (fun _ k => XS.isub X36.here hx rfl (hb hby at_61) rfl k) ?_
    show own_Go _ _ _ _ T36 (mkF m 62 #[.val (.int p_1), .val (.int p_2), .val (.int v1), .val (.int (1 : Int32)), .val (.int v31), .val (.ref b33), .val (.int v38), .unset, .unset] [(.int (v1 - (82 : Int32)))])
    refine own_go (fun _ k => XS.iload X36.here hx rfl (hb hby at_62) rfl k) ?_
    show own_Go _ _ _ _ T36 (mkF m 64 #[.val (.int p_1), .val (.int p_2), .val (.int v1), .val (.int (1 : Int32)), .val (.int v31), .val (.ref b33), .val (.int v38), .unset, .unset] [(.int v38), (.int (v1 - (82 : Int32)))])
    refine own_go (fun _ k => XS.isub X36.here hx rfl (hb hby at_64) rfl k) ?_
    show own_Go _ _ _ _ T36 (mkF m 65 #[.val (.int p_1), .val (.int p_2), .val (.int v1), .val (.int (1 : Int32)), .val (.int v31), .val (.ref b33), .val (.int v38), .unset, .unset] [(.int ((v1 - (82 : Int32)) - v38))])
    refine own_go (fun _ k => XS.iconst X36.here hx rfl (hb hby at_65) k) ?_
    show own_Go _ _ _ _ T36 (mkF m 66 #[.val (.int p_1), .val (.int p_2), .val (.int v1), .val (.int (1 : Int32)), .val (.int v31), .val (.ref b33), .val (.int v38), .unset, .unset] [(.int (1 : Int32)), (.int ((v1 - (82 : Int32)) - v38))])
    refine own_go (fun _ k => XS.isub X36.here hx rfl (hb hby at_66) rfl k) ?_
    show own_Go _ _ _ _ T36 (mkF m 67 #[.val (.int p_1), .val (.int p_2), .val (.int v1), .val (.int (1 : Int32)), .val (.int v31), .val (.ref b33), .val (.int v38), .unset, .unset] [(.int (((v1 - (82 : Int32)) - v38) - (1 : Int32)))])
    refine own_go (fun _ k => XS.istore X36.here hx rfl (hb hby at_67) rfl (l' := #[.val (.int p_1), .val (.int p_2), .val (.int v1), .val (.int (1 : Int32)), .val (.int v31), .val (.ref b33), .val (.int v38), .val (.int (((v1 - (82 : Int32)) - v38) - (1 : Int32))), .unset]) rfl k) ?_
    show own_Go _ _ _ _ T36 (mkF m 69 #[.val (.int p_1), .val (.int p_2), .val (.int v1), .val (.int (1 : Int32)), .val (.int v31), .val (.ref b33), .val (.int v38), .val (.int (((v1 - (82 : Int32)) - v38) - (1 : Int32))), .unset] [])
    generalize hdv39 : (((v1 - (82 : Int32)) - v38) - (1 : Int32)) = v39
    show own_Go _ _ _ _ T36 (mkF m 69 #[.val (.int p_1), .val (.int p_2), .val (.int v1), .val (.int (1 : Int32)), .val (.int v31), .val (.ref b33), .val (.int v38), .val (.int v39), .unset] [])
    obtain ⟨T40, h40, X40, e40, E40, A40, D40, Y40, st40⟩ := newO X36 hx hZ hown (hw _ (List.mem_of_getElem? (i := 6) rfl)) (hw _ (List.mem_of_getElem? (i := 7) rfl)) (hw _ (List.mem_of_getElem? (i := 8) rfl)) e36 (g := (mkF m 69 #[.val (.int p_1), .val (.int p_2), .val (.int v1), .val (.int (1 : Int32)), .val (.int v31), .val (.ref b33), .val (.int v38), .val (.int v39), .unset] [])) rfl (hb hby at_69) (by rw [y36]; decide) (by rw [z36]; decide)
    obtain ⟨b40, g40⟩ : ∃ z, z = h33.size := ⟨_, rfl⟩
    rw [← g40] at A40 D40 Y40 st40
    have z41 := E40.1
    have lt_b40 := own_lt A40.lt
    have F_largestRecord_b40 : Fld Z h40 b40 "com/example/fencepost/fencepost/connector/RecordLimit" "largestRecord" "I" (.int (0 : Int32)) := D40 (Or.inr (hw _ (List.mem_of_getElem? (i := 28) rfl))) (ty := .int) (by decide)
    have F_setting_b40 : Fld Z h40 b40 "com/example/fencepost/fencepost/connector/RecordLimit" "setting" "Ljava/lang/String;" .null := D40 (Or.inr (hw _ (List.mem_of_getElem? (i := 30) rfl))) (ty := (.object "java/lang/String")) (by decide)
    have F_topic_b40 : Fld Z h40 b40 "com/example/fencepost/fencepost/connector/RecordLimit" "topic" "Ljava/lang/String;" .null := D40 (Or.inr (hw _ (List.mem_of_getElem? (i := 32) rfl))) (ty := (.object "java/lang/String")) (by decide)
    refine own_go (fun _ k => st40 _ k) ?_
    show own_Go _ _ _ _ T40 (mkF m 72 #[.val (.int p_1), .val (.int p_2), .val (.int v1), .val (.int (1 : Int32)), .val (.int v31), .val (.ref b33), .val (.int v38), .val (.int v39), .unset] [(.ref b40)])
    refine own_go (fun _ k => XS.dup X40.here hx rfl (hb hby at_72) rfl rfl k) ?_
    show own_Go _ _ _ _ T40 (mkF m 73 #[.val (.int p_1), .val (.int p_2), .val (.int v1), .val (.int (1 : Int32)), .val (.int v31), .val (.ref b33), .val (.int v38), .val (.int v39), .unset] [(.ref b40), (.ref b40)])
    refine own_go (fun _ k => XS.iloadN X40.here hx rfl (hb hby at_73) rfl k) ?_
    show own_Go _ _ _ _ T40 (mkF m 74 #[.val (.int p_1), .val (.int p_2), .val (.int v1), .val (.int (1 : Int32)), .val (.int v31), .val (.ref b33), .val (.int v38), .val (.int v39), .unset] [(.int v1), (.ref b40), (.ref b40)])
    obtain ⟨b42, T42, h42, k42, X42, e42, E42, hS42, g42, hZ, hown, Li42, Wn42, st42⟩ := own_ldcSL X40 hx hZ hown (hw _ (List.mem_of_getElem? (i := 9) rfl)) (own_wS hw) e40 hS0 (by omega) (g := (mkF m 74 #[.val (.int p_1), .val (.int p_2), .val (.int v1), .val (.int (1 : Int32)), .val (.int v31), .val (.ref b33), .val (.int v38), .val (.int v39), .unset] [(.int v1), (.ref b40), (.ref b40)])) rfl (hb hby at_74) (n := 64) (by decide +kernel) (by decide) (by rw [y36]; decide) (by rw [z36]; decide)
    have z43 := E42.1
    refine own_go (fun _ k => st42 _ k) ?_
    show own_Go _ _ _ _ T42 (mkF m 76 #[.val (.int p_1), .val (.int p_2), .val (.int v1), .val (.int (1 : Int32)), .val (.int v31), .val (.ref b33), .val (.int v38), .val (.int v39), .unset] [(.ref b42), (.int v1), (.ref b40), (.ref b40)])
    refine own_go (fun _ k => XS.aconstNull X42.here hx rfl (hb hby at_76) k) ?_
    show own_Go _ _ _ _ T42 (mkF m 77 #[.val (.int p_1), .val (.int p_2), .val (.int v1), .val (.int (1 : Int32)), .val (.int v31), .val (.ref b33), .val (.int v38), .val (.int v39), .unset] [.null, (.ref b42), (.int v1), (.ref b40), (.ref b40)])
    have f44 : Exa Z h42 b40 "com/example/fencepost/fencepost/connector/RecordLimit" := (A40.ext E42)
    have f45 : Fld Z h42 b40 "com/example/fencepost/fencepost/connector/RecordLimit" "largestRecord" "I" (.int (0 : Int32)) := (F_largestRecord_b40.ext E42)
    have f46 : Fld Z h42 b40 "com/example/fencepost/fencepost/connector/RecordLimit" "setting" "Ljava/lang/String;" .null := (F_setting_b40.ext E42)
    have f47 : Fld Z h42 b40 "com/example/fencepost/fencepost/connector/RecordLimit" "topic" "Ljava/lang/String;" .null := (F_topic_b40.ext E42)
    obtain ⟨_, _, ⟨T48, L48, k48, n48⟩, -, X48, ⟨Lc48, hQ48, l48, y48, z48⟩, st48⟩ := X42.specialBack hx (y := (⟨"com/example/fencepost/fencepost/connector/RecordLimit", "<init>", "(ILjava/lang/String;Ljava/lang/String;)V"⟩ : MethodName)) rfl hown (mvT hZ (hw _ (List.mem_of_getElem? (i := 16) rfl))) (mvT hZ (hw _ (List.mem_of_getElem? (i := 17) rfl))) (mvT hZ (hw _ (List.mem_of_getElem? (i := 18) rfl))) (by decide) (backOf (W := 1) (own_rm2 l Z a0 hw [] b40 v1 b42 (0 : Int32) .null .null h42 n0 (by omega) f44 f45 f46 f47 (by omega)) hZ (hw _ (List.mem_of_getElem? (i := 18) rfl)) (hw _ (List.mem_of_getElem? (i := 8) rfl)) (by decide) (by decide)) (g := (mkF m 77 #[.val (.int p_1), .val (.int p_2), .val (.int v1), .val (.int (1 : Int32)), .val (.int v31), .val (.ref b33), .val (.int v38), .val (.int v39), .unset] [.null, (.ref b42), (.int v1), (.ref b40), (.ref b40)])) rfl (by rw [hml]; rfl) (Steps.refl _) (a := b40) (argsL := [(.int v1), (.ref b42), .null]) (rest := [(.ref b40)]) (lenOf own_pd4 rfl) rfl (by show 2 * 0 + _ ≤ _; exact Nat.le_of_eq rfl) (hb hby at_77) (fun _ _ => ⟨rfl, e42, (by show k36 + 1 + 2 + _ ≤ _; rw [y36]; decide), (by show n36 + 3 + 68 + _ ≤ _; rw [z36]; decide)⟩)
    dsimp only [Pt.U, Pt.locs, Pt.cells, Pt.slots] at X48 l48 y48 z48 st48 hQ48
    have y48 : k48 = 4 := own_addeq y48 (congrArg (fun q => q + 1 + 2) y36) rfl
    have z48 : n48 = 16454 := own_addeq z48 (congrArg (fun q => q + 3 + 68) z36) rfl
    obtain ⟨rfl, N48q, K48q, f49, f50, f51, f52⟩ := hQ48
    have N48 : Fr n0 L48 := by rw [l48]; exact Fr.app N36 N48q
    have z53 := K48q.1
    have z54 := own_lt f49.lt
    have z55 := own_lt f50.lt
    have z56 := own_lt f51.lt
    have z57 := own_lt f52.lt
    refine own_go (fun _ k => st48.trans k) ?_
    show own_Go _ _ _ _ T48 (mkF m 80 #[.val (.int p_1), .val (.int p_2), .val (.int v1), .val (.int (1 : Int32)), .val (.int v31), .val (.ref b33), .val (.int v38), .val (.int v39), .unset] [(.ref b40)])
    refine own_go (fun _ k => XS.astore X48.here hx rfl (hb hby at_80) rfl rfl (l' := #[.val (.int p_1), .val (.int p_2), .val (.int v1), .val (.int (1 : Int32)), .val (.int v31), .val (.ref b33), .val (.int v38), .val (.int v39), .val (.ref b40)]) rfl k) ?_
    show own_Go _ _ _ _ T48 (mkF m 82 #[.val (.int p_1), .val (.int p_2), .val (.int v1), .val (.int (1 : Int32)), .val (.int v31), .val (.ref b33), .val (.int v38), .val (.int v39), .val (.ref b40)] [])
    refine own_go (fun _ k => XS.aload X48.here hx rfl (hb hby at_82) rfl rfl k) ?_
    show own_Go _ _ _ _ T48 (mkF m 84 #[.val (.int p_1), .val (.int p_2), .val (.int v1), .val (.int (1 : Int32)), .val (.int v31), .val (.ref b33), .val (.int v38), .val (.int v39), .val (.ref b40)] [(.ref b40)])
    refine own_go (fun _ k => XS.aload X48.here hx rfl (hb hby at_84) rfl rfl k) ?_
    show own_Go _ _ _ _ T48 (mkF m 86 #[.val (.int p_1), .val (.int p_2), .val (.int v1), .val (.int (1 : Int32)), .val (.int v31), .val (.ref b33), .val (.int v38), .val (.int v39), .val (.ref b40)] [(.ref b33), (.ref b40)])
    have hlr : 0 ≤ v1.toInt := own_t0_6 p_1 p_2 v1 v31 r37 v38 v39 hdv1 hc2 hdv31 hr_r37 hdv38 hdv39
    have hzz : 0 ≤ v31.toInt ∧ v31.toInt ≤ 16383 := own_t0_7 p_1 p_2 v1 v31 r37 v38 v39 hdv1 hc2 hdv31 hr_r37 hdv38 hdv39 hlr
    have f58 : own_AV Z T48.heap b33 .byte v31 (fun _ => (.int (0 : Int32))) := (((V_b33.ext E40).ext E42).keep K48q (ninS (own_ne (by omega)) nin0))
    obtain ⟨cq59, kq59, q59a, q59b, q59c⟩ := isOf hZ rfl f49
    obtain ⟨_, _, ⟨T59, L59, k59, n59⟩, -, X59, ⟨Lc59, hQ59, l59, y59, z59⟩, st59⟩ := X48.virtualBack hx (y := (⟨"com/example/fencepost/fencepost/connector/RecordLimit", "largestValue", "([B)I"⟩ : MethodName)) (z := (⟨"com/example/fencepost/fencepost/connector/RecordLimit", "largestValue", "([B)I"⟩ : MethodName)) hown (mvT hZ (hw _ (List.mem_of_getElem? (i := 33) rfl))) (mvT hZ (hw _ (List.mem_of_getElem? (i := 34) rfl))) (notFace_of_selects (args := #[]) (mvT hZ (hw _ (List.mem_of_getElem? (i := 36) rfl)))) (mvT hZ (hw _ (List.mem_of_getElem? (i := 36) rfl))) (mvT hZ (hw _ (List.mem_of_getElem? (i := 35) rfl))) (by decide) (backOf (W := 0) (own_rm5a l Z a0 hw [] b40 b33 v1 v31 (fun _ => (.int (0 : Int32))) T48.heap n0 (by omega) f49 f50 f58 hzz (own_t0_8 v1 v31 hlr hzz)) hZ (hw _ (List.mem_of_getElem? (i := 37) rfl)) (hw _ (List.mem_of_getElem? (i := 8) rfl)) (by decide) (by decide)) q59a q59c (g := (mkF m 86 #[.val (.int p_1), .val (.int p_2), .val (.int v1), .val (.int (1 : Int32)), .val (.int v31), .val (.ref b33), .val (.int v38), .val (.int v39), .val (.ref b40)] [(.ref b33), (.ref b40)])) rfl (by rw [hml]; rfl) (Steps.refl _) (argsL := [(.ref b33)]) (rest := []) (lenOf own_pd2 rfl) rfl (by show 2 * 0 + _ ≤ _; exact Nat.le_of_eq rfl) (hb hby at_86) (fun _ _ => ⟨rfl, rfl, (by show k48 + _ ≤ _; rw [y48]; decide), (by show n48 + _ ≤ _; rw [z48]; decide)⟩)
    dsimp only [Pt.U, Pt.locs, Pt.cells, Pt.slots] at X59 l59 y59 z59 st59 hQ59
    have y59 : k59 = 4 := own_addeq y59 (congrArg (fun q => q) y48) rfl
    have z59 : n59 = 16454 := own_addeq z59 (congrArg (fun q => q) z48) rfl
    obtain ⟨r60, rfl, N59q, hr_r60, e59⟩ := hQ59
    have N59 : Fr n0 L59 := by rw [l59]; exact Fr.app N48 N59q
    refine own_go (fun _ k => st59.trans k) ?_
    show own_Go _ _ _ _ T59 (mkF m 89 #[.val (.int p_1), .val (.int p_2), .val (.int v1), .val (.int (1 : Int32)), .val (.int v31), .val (.ref b33), .val (.int v38), .val (.int v39), .val (.ref b40)] [(.int r60)])
    refine own_go (fun _ k => XS.iload X59.here hx rfl (hb hby at_89) rfl k) ?_
    show own_Go _ _ _ _ T59 (mkF m 91 #[.val (.int p_1), .val (.int p_2), .val (.int v1), .val (.int (1 : Int32)), .val (.int v31), .val (.ref b33), .val (.int v38), .val (.int v39), .val (.ref b40)] [(.int v39), (.int r60)])
    obtain ⟨_, _, ⟨T61, L61, k61, n61⟩, -, X61, ⟨Lc61, hQ61, l61, y61, z61⟩, st61⟩ := Jvm.LawKit.callS X59 hx (y := (⟨"com/example/fencepost/fencepost/connector/RecordLimitLargestValuePinLaw", "expected", "(I)I"⟩ : MethodName)) hown (mvT hZ (hw _ (List.mem_of_getElem? (i := 57) rfl))) (mvT hZ (hw _ (List.mem_of_getElem? (i := 58) rfl))) (mvT hZ (hw _ (List.mem_of_getElem? (i := 4) rfl))) (mvT hZ (hw _ (List.mem_of_getElem? (i := 59) rfl))) (by decide) (backOf (W := 1) (own_rm11 l Z a0 hw [] v39  T48.heap n0 (by omega) ) hZ (hw _ (List.mem_of_getElem? (i := 59) rfl)) (hw _ (List.mem_of_getElem? (i := 4) rfl)) (by decide) (by decide)) (g := (mkF m 91 #[.val (.int p_1), .val (.int p_2), .val (.int v1), .val (.int (1 : Int32)), .val (.int v31), .val (.ref b33), .val (.int v38), .val (.int v39), .val (.ref b40)] [(.int v39), (.int r60)])) rfl (by rw [hml]; rfl) (argsL := [(.int v39)]) (rest := [(.int r60)]) (lenOf own_pd0 rfl) rfl (by show 2 * 0 + _ ≤ _; exact Nat.le_of_eq rfl) (hb hby at_91) (fun _ _ => ⟨rfl, e59, (by show k59 + _ ≤ _; rw [y59]; decide), (by show n59 + _ ≤ _; rw [z59]; decide)⟩)
    dsimp only [Pt.U, Pt.locs, Pt.cells, Pt.slots] at X61 l61 y61 z61 st61 hQ61
    have y61 : k61 = 4 := own_addeq y61 (congrArg (fun q => q) y59) rfl
    have z61 : n61 = 16454 := own_addeq z61 (congrArg (fun q => q) z59) rfl
    obtain ⟨r62, rfl, N61q, hr_r62, e61⟩ := hQ61
    have N61 : Fr n0 L61 := by rw [l61]; exact Fr.app N59 N61q
    refine own_go (fun _ k => st61 _ k) ?_
    show own_Go _ _ _ _ T61 (mkF m 94 #[.val (.int p_1), .val (.int p_2), .val (.int v1), .val (.int (1 : Int32)), .val (.int v31), .val (.ref b33), .val (.int v38), .val (.int v39), .val (.ref b40)] [(.int r62), (.int r60)])
    have hc63 : r60 = r62 := own_t0_9 p_1 p_2 v1 v31 r37 v38 v39 r60 r62 hdv1 hc2 hdv31 hr_r37 hdv38 hdv39 hlr hzz hr_r60 hr_r62
    refine own_go (fun _ k => XS.icmpNo X61.here hx rfl (hb hby at_94) rfl (Jvm.Free.XT.ii_ne_f hc63) k) ?_
    show own_Go _ _ _ _ T61 (mkF m 97 #[.val (.int p_1), .val (.int p_2), .val (.int v1), .val (.int (1 : Int32)), .val (.int v31), .val (.ref b33), .val (.int v38), .val (.int v39), .val (.ref b40)] [])
    refine own_go (fun _ k => XS.iconst X61.here hx rfl (hb hby at_97) k) ?_
    show own_Go _ _ _ _ T61 (mkF m 98 #[.val (.int p_1), .val (.int p_2), .val (.int v1), .val (.int (1 : Int32)), .val (.int v31), .val (.ref b33), .val (.int v38), .val (.int v39), .val (.ref b40)] [(.int (1 : Int32))])
    refine own_go (fun _ k => XS.goto X61.here hx rfl (pc0 := 98) (pc' := 102) rfl (hb hby at_98) (by decide) (by decide) k) ?_
    show own_Go _ _ _ _ T61 (mkF m 102 #[.val (.int p_1), .val (.int p_2), .val (.int v1), .val (.int (1 : Int32)), .val (.int v31), .val (.ref b33), .val (.int v38), .val (.int v39), .val (.ref b40)] [(.int (1 : Int32))])
    obtain ⟨fs, hr, hrun, hended, hRW⟩ := X61.leaveW hS42 (by rw [e61]; omega) (v := some (.int (1 : Int32))) (fun h => by rw [Bd.returns] at h; cases h)
    refine ⟨_, _, retOut X61 hx Bd.returns rfl (Or.inl ⟨rfl, Or.inr (Or.inl rfl), _, rfl⟩) (hb hby at_102) hr, hrun, hended, _, _, rfl, ?_, own_monoW hRW (by rw [y61]; decide) (by rw [z61]; decide)⟩
    show own_Q0 Z p_1 p_2 h0 n0 _ T61.heap _
    rw [e61]
    exact ⟨rfl, N61⟩
set_option maxRecDepth 65536 in
set_option maxHeartbeats 40000000 in
theorem comes_1 {Post : Tables → Env → Array Value → State → Outcome → State → Prop} (hpost : ∀ tb e args s v u, (limb_1_1.after args s (.returned v) u = true ∧ limb_1_2.after args s (.returned v) u = true ∧ True) → ReturnedEndW s (.returned v) u (Jvm.fieldLocs frame_1_writes args s ++ Jvm.arrayLocs frame_1_arrays args s ++ Jvm.staticLocs frame_1_statics s) 16 33920 → Post tb e args s (.returned v) u) :
    ArmFor flags0 classFile x code maxLocals ret World_1 tables_1 room_1 Calls_1 rest_1 Pre_1 Post := by
  intro l hfl _ _ p e ha hc hk s m args below hf hA hF happ hP
  obtain ⟨hcalls, hrest, hpre⟩ := hP
  obtain ⟨-, -, -, hnamed, -, -, -, hat⟩ := (Spec.applies_iff hf).mp happ
  obtain ⟨hg, hn⟩ := and_e (Cond.before_iff.mp (show (Jvm.Cond.and given_1 narrow_1).before args s = true from hpre))
  obtain ⟨g1, g2⟩ := and_e hg
  obtain ⟨g3, g4⟩ := and_e g2
  obtain ⟨w0, w1, rfl⟩ : ∃ w0 w1 : Value, args = #[w0, w1] := by
    have hs : args.size = 2 := by simpa [Cond.value, given_1] using g1
    obtain ⟨L⟩ := args
    match L, hs with
    | [w0, w1], _ => exact ⟨w0, w1, rfl⟩
  have hw := fun d (hd : d ∈ tables_1) => atoms_spec (ws := Jvm.Cond.code x code maxLocals ret :: tables_1) hat d (List.mem_cons_of_mem _ hd)
  have hfit : Fit s := fun {y c} hc i hi => by
    obtain ⟨ha, rfl⟩ := Array.getElem?_eq_some_iff.mp hc
    have q := List.all_eq_true.mp ((Array.all_eq_true_iff_forall_mem.mp hF) _ (Array.getElem_mem ha)) i (List.mem_range.mpr hi)
    simpa [Array.getElem?_eq_getElem hi] using q
  obtain ⟨i0, ei0⟩ := is_v g3
  obtain rfl : w0 = (.int i0) := Option.some.inj ei0
  obtain ⟨i1, ei1⟩ := is_v g4
  obtain rfl : w1 = (.int i1) := Option.some.inj ei1
  obtain ⟨n, o, h1, h2, h3, _, L, rfl, ⟨rfl, N⟩, hq⟩ := own_rm0 l s _ hw tables_1 i0 i1  s.heap s.heap.size (Nat.le_refl _)  p e ha hc hk s m _ below hf ((Spec.applies_iff_loose hf).mp happ).1 ⟨rfl, State.Warmed39.refl s, rfl⟩ trivial
  refine ⟨n, _, h1, h2, h3, hpost _ _ _ _ _ _ ⟨Cond.after_iff.mpr rfl, Cond.after_iff.mpr (eq_i res_at (Term.int_eval (1)) rfl), trivial⟩ ⟨hq.1, hq.2.1, hq.2.2.1, (hq.2.2.2.sift fun y hy => Or.inr (N y hy)).mono (by decide) (by decide)⟩⟩
theorem main_1_1 : Claimed_1_1 := comes_1 fun _ _ _ _ _ _ h hF => ⟨h.1, hF⟩
theorem main_1_2 : Claimed_1_2 := comes_1 fun _ _ _ _ _ _ h hF => ⟨h.2.1, hF⟩
end Jvm.Pilot.@@N@@
namespace Jvm.Pilot.@@N@@
open Jvm Jvm.ClassFile Sem Op Lib Jvm.Free Jvm.Stand Jvm.Pilot.@@N@@.Jvm.D
/-! MADE BY PROGRAM (witnessworld.py) out of the Statement's table words and the real class files: 18 classes; the members and pool entries that the words name. The judged class is class 1, her method 3. -/
namespace start1
open Jvm.ClassFile
def u (s : String) : CpInfo := .utf8 (stringToUtf16 s)
/-- a pool by its gaps: so many unusable entries, then the entry; so many at the end -/
def gap : Nat → List CpInfo → List CpInfo
  | 0, r => r
  | n + 1, r => .unusable :: gap n r
def poolList (es : List (Nat × CpInfo)) (last : Nat) : List CpInfo := es.foldr (fun e r => gap e.1 (e.2 :: r)) (gap last [])
def pool (es : List (Nat × CpInfo)) (last : Nat) : Array CpInfo := ⟨poolList es last⟩
def fileOf (pool : Array CpInfo) (this : Nat) (attrs : Array Attribute := #[]) (ms : Array MethodInfo := #[]) (fl : Nat := 33) (sup : Nat := 0) (ifs : Array Nat := #[]) (fds : Array FieldInfo := #[]) : ClassFile where
  minorVersion := 0
  majorVersion := 65
  constantPool := pool
  accessFlags := fl
  thisClass := this
  superClass := sup
  interfaces := ifs
  fields := fds
  methods := ms
  attributes := attrs
def plain (name : String) (sup : Option ClassId) : Class where
  name := name
  kind := .ordinary
  loader := none
  accessFlags := 33
  super := sup
  interfaces := #[]
  cf := none
  fields := #[]
  methods := #[]
  instanceTypes := #[]
  staticTypes := #[]
  resolved := #[]
  callSites := []
  init := .initialized
  statics := none
  mirror := none

def pool0 : Array CpInfo := pool [(5, u "<init>"), (0, u "()V"), (1, .class_ 10), (1, u "java/lang/Object")] 113

def k0c0 : Code := { maxStack := 0, maxLocals := 1, code := object_method_1_code, exceptionTable := #[], attributes := #[] }
def k0m0 : Method := { name := "<init>", desc := "()V", sig := { parameters := [], returnType := none }, accessFlags := 1, code := some k0c0 }
/-- java/lang/Object -/
def k0 : Class := { plain "java/lang/Object" none with
  accessFlags := 33
  interfaces := #[]
  cf := some (fileOf pool0 8 #[] #[{ accessFlags := 1, nameIndex := 5, descriptorIndex := 6, attributes := #[] }] 33 0 #[] #[])
  fields := #[]
  methods := #[k0m0]
  instanceTypes := #[]
  staticTypes := #[]
  resolved := Array.replicate 124 none
  statics := none }

def pool1 : Array CpInfo := pool [(2, .class_ 4), (1, u "java/lang/Object"), (0, u "<init>"), (0, u "()V"), (0, .integer 1048578), (0, .integer 134217731), (0, .integer 2147483647), (0, .methodref 11 12), (0, .class_ 13), (0, .nameAndType 14 15), (0, u "com/example/fencepost/fencepost/connector/RecordLimitLargestValuePinLaw"), (0, u "lenSize"), (0, u "(I)I"), (0, .class_ 17), (0, u "com/example/fencepost/fencepost/connector/RecordLimit"), (0, .string 19), (0, u "max.request.size"), (0, .methodref 16 21), (0, .nameAndType 5 22), (0, u "(ILjava/lang/String;Ljava/lang/String;)V"), (0, .methodref 16 24), (0, .nameAndType 25 26), (0, u "largestValue"), (0, u "([B)I"), (0, .methodref 11 28), (0, .nameAndType 29 15), (0, u "expected"), (3, u "law"), (0, u "(II)Z")] 4

def k1m0 : Method := { name := "<init>", desc := "()V", sig := { parameters := [], returnType := none }, accessFlags := 1, code := none }
def k1c1 : Code := { maxStack := 2, maxLocals := 1, code := method_2_code, exceptionTable := #[], attributes := #[] }
def k1m1 : Method := { name := "lenSize", desc := "(I)I", sig := { parameters := [.int], returnType := some .int }, accessFlags := 10, code := some k1c1 }
def k1c2 : Code := { maxStack := 2, maxLocals := 1, code := method_3_code, exceptionTable := #[], attributes := #[] }
def k1m2 : Method := { name := "expected", desc := "(I)I", sig := { parameters := [.int], returnType := some .int }, accessFlags := 10, code := some k1c2 }
def k1c3 : Code := { maxStack := 5, maxLocals := 9, code := code, exceptionTable := #[], attributes := #[] }
def k1m3 : Method := { name := "law", desc := "(II)Z", sig := { parameters := [.int, .int], returnType := some .boolean }, accessFlags := 9, code := some k1c3 }
/-- com/example/fencepost/fencepost/connector/RecordLimitLargestValuePinLaw -/
def k1 : Class := { plain "com/example/fencepost/fencepost/connector/RecordLimitLargestValuePinLaw" (some 0) with
  accessFlags := 49
  interfaces := #[]
  cf := some (fileOf pool1 11 #[] #[{ accessFlags := 1, nameIndex := 5, descriptorIndex := 6, attributes := #[] }, { accessFlags := 10, nameIndex := 14, descriptorIndex := 15, attributes := #[] }, { accessFlags := 10, nameIndex := 29, descriptorIndex := 15, attributes := #[] }, { accessFlags := 9, nameIndex := 33, descriptorIndex := 34, attributes := #[] }] 49 2 #[] #[])
  fields := #[]
  methods := #[k1m0, k1m1, k1m2, k1m3]
  instanceTypes := #[]
  staticTypes := #[]
  resolved := Array.replicate 39 none
  statics := none }

def pool2 : Array CpInfo := pool [(1, .methodref 2 3), (0, .class_ 4), (0, .nameAndType 5 6), (0, u "java/lang/Object"), (0, u "<init>"), (0, u "()V"), (0, .class_ 8), (0, u "java/lang/Record")] 13

def k2c0 : Code := { maxStack := 1, maxLocals := 1, code := jdk_30_method_1_code, exceptionTable := #[], attributes := #[] }
def k2m0 : Method := { name := "<init>", desc := "()V", sig := { parameters := [], returnType := none }, accessFlags := 4, code := some k2c0 }
/-- java/lang/Record -/
def k2 : Class := { plain "java/lang/Record" (some 0) with
  accessFlags := 1057
  interfaces := #[]
  cf := some (fileOf pool2 7 #[] #[{ accessFlags := 4, nameIndex := 5, descriptorIndex := 6, attributes := #[] }] 1057 2 #[] #[])
  fields := #[]
  methods := #[k2m0]
  instanceTypes := #[]
  staticTypes := #[]
  resolved := Array.replicate 22 none
  statics := none }

def pool3 : Array CpInfo := pool [(1, .methodref 2 3), (0, .class_ 4), (0, .nameAndType 5 6), (0, u "java/lang/Record"), (0, u "<init>"), (0, u "()V"), (0, .fieldref 8 9), (0, .class_ 10), (0, .nameAndType 11 12), (0, u "com/example/fencepost/fencepost/connector/RecordLimit"), (0, u "largestRecord"), (0, u "I"), (0, .fieldref 8 14), (0, .nameAndType 15 16), (0, u "setting"), (0, u "Ljava/lang/String;"), (0, .fieldref 8 18), (0, .nameAndType 19 16), (0, u "topic"), (2, u "(ILjava/lang/String;Ljava/lang/String;)V"), (2, .methodref 8 26), (0, .nameAndType 27 28), (0, u "room"), (0, u "([B)I"), (0, .methodref 8 30), (0, .nameAndType 31 32), (0, u "varintSize"), (0, u "(I)I"), (0, .methodref 8 34), (0, .nameAndType 35 28), (0, u "fieldSize"), (7, .class_ 44), (0, u "java/lang/Integer"), (0, .methodref 43 46), (0, .nameAndType 47 32), (0, u "numberOfLeadingZeros"), (0, .methodref 49 50), (0, .class_ 51), (0, .nameAndType 52 53), (0, u "java/lang/Math"), (0, u "max"), (0, u "(II)I"), (12, u "FRAMING"), (9, u "largestValue")] 41

def k3c0 : Code := { maxStack := 2, maxLocals := 4, code := prog_16_method_2_code, exceptionTable := #[], attributes := #[] }
def k3m0 : Method := { name := "<init>", desc := "(ILjava/lang/String;Ljava/lang/String;)V", sig := { parameters := [.int, (.object "java/lang/String"), (.object "java/lang/String")], returnType := none }, accessFlags := 1, code := some k3c0 }
def k3c1 : Code := { maxStack := 2, maxLocals := 4, code := prog_16_method_4_code, exceptionTable := #[], attributes := #[] }
def k3m1 : Method := { name := "largestValue", desc := "([B)I", sig := { parameters := [(.array .byte)], returnType := some .int }, accessFlags := 1, code := some k3c1 }
def k3c2 : Code := { maxStack := 2, maxLocals := 2, code := prog_16_method_7_code, exceptionTable := #[], attributes := #[] }
def k3m2 : Method := { name := "room", desc := "([B)I", sig := { parameters := [(.array .byte)], returnType := some .int }, accessFlags := 2, code := some k3c2 }
def k3c3 : Code := { maxStack := 2, maxLocals := 1, code := prog_16_method_8_code, exceptionTable := #[], attributes := #[] }
def k3m3 : Method := { name := "fieldSize", desc := "([B)I", sig := { parameters := [(.array .byte)], returnType := some .int }, accessFlags := 10, code := some k3c3 }
def k3c4 : Code := { maxStack := 3, maxLocals := 3, code := prog_16_method_9_code, exceptionTable := #[], attributes := #[] }
def k3m4 : Method := { name := "varintSize", desc := "(I)I", sig := { parameters := [.int], returnType := some .int }, accessFlags := 10, code := some k3c4 }
/-- com/example/fencepost/fencepost/connector/RecordLimit -/
def k3 : Class := { plain "com/example/fencepost/fencepost/connector/RecordLimit" (some 2) with
  accessFlags := 49
  interfaces := #[]
  cf := some (fileOf pool3 8 #[] #[{ accessFlags := 1, nameIndex := 5, descriptorIndex := 22, attributes := #[] }, { accessFlags := 1, nameIndex := 76, descriptorIndex := 28, attributes := #[] }, { accessFlags := 2, nameIndex := 27, descriptorIndex := 28, attributes := #[] }, { accessFlags := 10, nameIndex := 35, descriptorIndex := 28, attributes := #[] }, { accessFlags := 10, nameIndex := 31, descriptorIndex := 32, attributes := #[] }] 49 2 #[] #[{ accessFlags := 18, nameIndex := 11, descriptorIndex := 12, attributes := #[] }, { accessFlags := 18, nameIndex := 15, descriptorIndex := 16, attributes := #[] }, { accessFlags := 18, nameIndex := 19, descriptorIndex := 16, attributes := #[] }, { accessFlags := 26, nameIndex := 66, descriptorIndex := 12, attributes := #[] }])
  fields := #[{ name := "largestRecord", type := .int, accessFlags := 18, slot := 0, constantValue := 0 }, { name := "setting", type := (.object "java/lang/String"), accessFlags := 18, slot := 1, constantValue := 0 }, { name := "topic", type := (.object "java/lang/String"), accessFlags := 18, slot := 2, constantValue := 0 }, { name := "FRAMING", type := .int, accessFlags := 26, slot := 0, constantValue := 0 }]
  methods := #[k3m0, k3m1, k3m2, k3m3, k3m4]
  instanceTypes := #[.int, (.object "java/lang/String"), (.object "java/lang/String")]
  staticTypes := #[.int]
  resolved := Array.replicate 118 none
  statics := none }

def pool4 : Array CpInfo := pool [(1, .class_ 2), (0, u "java/io/Serializable"), (0, .class_ 4), (0, u "java/lang/Object")] 2

/-- java/io/Serializable -/
def k4 : Class := { plain "java/io/Serializable" (some 0) with
  accessFlags := 1537
  interfaces := #[]
  cf := some (fileOf pool4 1 #[] #[] 1537 3 #[] #[])
  fields := #[]
  methods := #[]
  instanceTypes := #[]
  staticTypes := #[]
  resolved := Array.replicate 7 none
  statics := none }

def pool5 : Array CpInfo := pool [(1, .class_ 2), (0, u "java/lang/Comparable"), (0, .class_ 4), (0, u "java/lang/Object")] 7

/-- java/lang/Comparable -/
def k5 : Class := { plain "java/lang/Comparable" (some 0) with
  accessFlags := 1537
  interfaces := #[]
  cf := some (fileOf pool5 1 #[] #[] 1537 3 #[] #[])
  fields := #[]
  methods := #[]
  instanceTypes := #[]
  staticTypes := #[]
  resolved := Array.replicate 12 none
  statics := none }

def pool6 : Array CpInfo := pool [(2, .class_ 4), (1, u "java/lang/CharSequence"), (42, .class_ 48), (0, u "java/lang/CharSequence$1CodePointIterator"), (10, .class_ 60), (0, u "java/lang/CharSequence$1CharIterator"), (5, .class_ 67), (0, u "java/lang/Object")] 63

/-- java/lang/CharSequence -/
def k6 : Class := { plain "java/lang/CharSequence" (some 0) with
  accessFlags := 1537
  interfaces := #[]
  cf := some (fileOf pool6 2 #[.nestMembers #[47, 59]] #[] 1537 66 #[] #[])
  fields := #[]
  methods := #[]
  instanceTypes := #[]
  staticTypes := #[]
  resolved := Array.replicate 131 none
  statics := none }

def pool7 : Array CpInfo := pool [(1, .class_ 2), (0, u "java/lang/constant/Constable"), (0, .class_ 4), (0, u "java/lang/Object")] 6

/-- java/lang/constant/Constable -/
def k7 : Class := { plain "java/lang/constant/Constable" (some 0) with
  accessFlags := 1537
  interfaces := #[]
  cf := some (fileOf pool7 1 #[] #[] 1537 3 #[] #[])
  fields := #[]
  methods := #[]
  instanceTypes := #[]
  staticTypes := #[]
  resolved := Array.replicate 11 none
  statics := none }

def pool8 : Array CpInfo := pool [(1, .class_ 2), (0, u "java/lang/constant/ConstantDesc"), (0, .class_ 4), (0, u "java/lang/Object")] 32

/-- java/lang/constant/ConstantDesc -/
def k8 : Class := { plain "java/lang/constant/ConstantDesc" (some 0) with
  accessFlags := 1537
  interfaces := #[]
  cf := some (fileOf pool8 1 #[] #[] 1537 3 #[] #[])
  fields := #[]
  methods := #[]
  instanceTypes := #[]
  staticTypes := #[]
  resolved := Array.replicate 37 none
  statics := none }

def pool9 : Array CpInfo := pool [(2, .class_ 4), (1, u "java/lang/Object"), (0, u "<init>"), (0, u "()V"), (3, .class_ 12), (1, u "java/lang/String"), (0, u "value"), (0, u "[B"), (2, u "coder"), (0, u "B"), (2, u "hash"), (0, u "I"), (2, u "hashIsZero"), (0, u "Z"), (13, u "COMPACT_STRINGS"), (534, .class_ 576), (0, u "java/lang/CharSequence"), (22, u "CASE_INSENSITIVE_ORDER"), (0, u "Ljava/util/Comparator;"), (500, u "serialPersistentFields"), (0, u "[Ljava/io/ObjectStreamField;"), (0, .class_ 1104), (0, u "java/lang/String$CaseInsensitiveComparator"), (1, .class_ 1107), (0, u "java/io/Serializable"), (0, .class_ 1109), (0, u "java/lang/Comparable"), (0, .class_ 1111), (0, u "java/lang/constant/Constable"), (0, .class_ 1113), (0, u "java/lang/constant/ConstantDesc"), (2, u "serialVersionUID"), (0, u "J"), (3, u "REPL"), (0, u "C"), (2, u "LATIN1"), (1, u "UTF16")] 323

def k9m0 : Method := { name := "<init>", desc := "()V", sig := { parameters := [], returnType := none }, accessFlags := 1, code := none }
/-- java/lang/String -/
def k9 : Class := { plain "java/lang/String" (some 0) with
  accessFlags := 49
  interfaces := #[4, 5, 6, 7, 8]
  cf := some (fileOf pool9 10 #[.nestMembers #[1103]] #[{ accessFlags := 1, nameIndex := 5, descriptorIndex := 6, attributes := #[] }] 49 2 #[1106, 1108, 575, 1110, 1112] #[{ accessFlags := 18, nameIndex := 13, descriptorIndex := 14, attributes := #[] }, { accessFlags := 18, nameIndex := 17, descriptorIndex := 18, attributes := #[] }, { accessFlags := 2, nameIndex := 21, descriptorIndex := 22, attributes := #[] }, { accessFlags := 2, nameIndex := 25, descriptorIndex := 26, attributes := #[] }, { accessFlags := 26, nameIndex := 1116, descriptorIndex := 1117, attributes := #[] }, { accessFlags := 24, nameIndex := 40, descriptorIndex := 26, attributes := #[] }, { accessFlags := 26, nameIndex := 1101, descriptorIndex := 1102, attributes := #[] }, { accessFlags := 26, nameIndex := 1121, descriptorIndex := 1122, attributes := #[] }, { accessFlags := 25, nameIndex := 599, descriptorIndex := 600, attributes := #[] }, { accessFlags := 24, nameIndex := 1125, descriptorIndex := 18, attributes := #[] }, { accessFlags := 24, nameIndex := 1127, descriptorIndex := 18, attributes := #[] }])
  fields := #[{ name := "value", type := (.array .byte), accessFlags := 18, slot := 0, constantValue := 0 }, { name := "coder", type := .byte, accessFlags := 18, slot := 1, constantValue := 0 }, { name := "hash", type := .int, accessFlags := 2, slot := 2, constantValue := 0 }, { name := "hashIsZero", type := .boolean, accessFlags := 2, slot := 3, constantValue := 0 }, { name := "serialVersionUID", type := .long, accessFlags := 26, slot := 0, constantValue := 0 }, { name := "COMPACT_STRINGS", type := .boolean, accessFlags := 24, slot := 1, constantValue := 0 }, { name := "serialPersistentFields", type := (.array (.object "java/io/ObjectStreamField")), accessFlags := 26, slot := 2, constantValue := 0 }, { name := "REPL", type := .char, accessFlags := 26, slot := 3, constantValue := 0 }, { name := "CASE_INSENSITIVE_ORDER", type := (.object "java/util/Comparator"), accessFlags := 25, slot := 4, constantValue := 0 }, { name := "LATIN1", type := .byte, accessFlags := 24, slot := 5, constantValue := 0 }, { name := "UTF16", type := .byte, accessFlags := 24, slot := 6, constantValue := 0 }]
  methods := #[k9m0]
  instanceTypes := #[(.array .byte), .byte, .int, .boolean]
  staticTypes := #[.long, .boolean, (.array (.object "java/io/ObjectStreamField")), .char, (.object "java/util/Comparator"), .byte, .byte]
  resolved := Array.replicate 1451 none
  statics := none }

def pool10 : Array CpInfo := pool [(2, .class_ 4), (1, u "java/lang/Object"), (0, u "<init>"), (0, u "()V"), (1, .class_ 10), (1, u "java/lang/Number"), (2, .class_ 14), (0, u "java/io/Serializable"), (0, u "serialVersionUID"), (0, u "J")] 20

def k10m0 : Method := { name := "<init>", desc := "()V", sig := { parameters := [], returnType := none }, accessFlags := 1, code := none }
/-- java/lang/Number -/
def k10 : Class := { plain "java/lang/Number" (some 0) with
  accessFlags := 1057
  interfaces := #[4]
  cf := some (fileOf pool10 8 #[] #[{ accessFlags := 1, nameIndex := 5, descriptorIndex := 6, attributes := #[] }] 1057 2 #[13] #[{ accessFlags := 26, nameIndex := 15, descriptorIndex := 16, attributes := #[] }])
  fields := #[{ name := "serialVersionUID", type := .long, accessFlags := 26, slot := 0, constantValue := 0 }]
  methods := #[k10m0]
  instanceTypes := #[]
  staticTypes := #[.long]
  resolved := Array.replicate 37 none
  statics := none }

def pool11 : Array CpInfo := pool [(1, .class_ 2), (0, u "java/lang/Integer"), (16, u "digits"), (0, u "[C"), (32, u "numberOfLeadingZeros"), (0, u "(I)I"), (30, u "DigitOnes"), (0, u "[B"), (2, u "DigitTens"), (99, .class_ 190), (0, u "java/lang/Integer$IntegerCache"), (3, u "I"), (8, .class_ 204), (0, u "java/lang/Number"), (2, u "value"), (56, .integer 65536), (37, u "TYPE"), (0, u "Ljava/lang/Class;"), (0, .class_ 305), (0, u "java/lang/Comparable"), (0, .class_ 307), (0, u "java/lang/constant/Constable"), (0, .class_ 309), (0, u "java/lang/constant/ConstantDesc"), (0, u "MIN_VALUE"), (1, u "MAX_VALUE"), (3, u "SIZE"), (1, u "BYTES"), (1, u "serialVersionUID"), (0, u "J")] 131

def k11c0 : Code := { maxStack := 3, maxLocals := 2, code := jdk_33_method_47_code, exceptionTable := #[], attributes := #[] }
def k11m0 : Method := { name := "numberOfLeadingZeros", desc := "(I)I", sig := { parameters := [.int], returnType := some .int }, accessFlags := 9, code := some k11c0 }
/-- java/lang/Integer -/
def k11 : Class := { plain "java/lang/Integer" (some 10) with
  accessFlags := 49
  interfaces := #[5, 7, 8]
  cf := some (fileOf pool11 1 #[.nestMembers #[189]] #[{ accessFlags := 9, nameIndex := 53, descriptorIndex := 54, attributes := #[] }] 49 203 #[304, 306, 308] #[{ accessFlags := 25, nameIndex := 310, descriptorIndex := 194, attributes := #[] }, { accessFlags := 25, nameIndex := 312, descriptorIndex := 194, attributes := #[] }, { accessFlags := 25, nameIndex := 302, descriptorIndex := 303, attributes := #[] }, { accessFlags := 24, nameIndex := 19, descriptorIndex := 20, attributes := #[] }, { accessFlags := 24, nameIndex := 89, descriptorIndex := 86, attributes := #[] }, { accessFlags := 24, nameIndex := 85, descriptorIndex := 86, attributes := #[] }, { accessFlags := 18, nameIndex := 207, descriptorIndex := 194, attributes := #[] }, { accessFlags := 25, nameIndex := 316, descriptorIndex := 194, attributes := #[] }, { accessFlags := 25, nameIndex := 318, descriptorIndex := 194, attributes := #[] }, { accessFlags := 26, nameIndex := 320, descriptorIndex := 321, attributes := #[] }])
  fields := #[{ name := "MIN_VALUE", type := .int, accessFlags := 25, slot := 0, constantValue := 0 }, { name := "MAX_VALUE", type := .int, accessFlags := 25, slot := 1, constantValue := 0 }, { name := "TYPE", type := (.object "java/lang/Class"), accessFlags := 25, slot := 2, constantValue := 0 }, { name := "digits", type := (.array .char), accessFlags := 24, slot := 3, constantValue := 0 }, { name := "DigitTens", type := (.array .byte), accessFlags := 24, slot := 4, constantValue := 0 }, { name := "DigitOnes", type := (.array .byte), accessFlags := 24, slot := 5, constantValue := 0 }, { name := "value", type := .int, accessFlags := 18, slot := 0, constantValue := 0 }, { name := "SIZE", type := .int, accessFlags := 25, slot := 6, constantValue := 0 }, { name := "BYTES", type := .int, accessFlags := 25, slot := 7, constantValue := 0 }, { name := "serialVersionUID", type := .long, accessFlags := 26, slot := 8, constantValue := 0 }]
  methods := #[k11m0]
  instanceTypes := #[.int]
  staticTypes := #[.int, .int, (.object "java/lang/Class"), (.array .char), (.array .byte), (.array .byte), .int, .int, .long]
  resolved := Array.replicate 453 none
  statics := none }

def pool12 : Array CpInfo := pool [(1, .class_ 2), (0, u "java/lang/Math"), (1, .class_ 6), (1, u "java/lang/Object"), (0, u "<init>"), (0, u "()V"), (89, .class_ 100), (1, u "java/lang/Math$RandomNumberGeneratorHolder"), (71, u "negativeZeroFloatBits"), (0, u "J"), (2, u "negativeZeroDoubleBits"), (21, u "max"), (46, u "$assertionsDisabled"), (0, u "Z"), (88, u "(II)I"), (2, u "twoToTheDoubleScaleDown"), (0, u "D"), (4, u "twoToTheDoubleScaleUp"), (9, u "E"), (3, u "PI"), (2, u "TAU"), (2, u "DEGREES_TO_RADIANS"), (0, u "RADIANS_TO_DEGREES")] 94

def k12m0 : Method := { name := "<init>", desc := "()V", sig := { parameters := [], returnType := none }, accessFlags := 2, code := none }
def k12c1 : Code := { maxStack := 2, maxLocals := 2, code := jdk_29_method_65_code, exceptionTable := #[], attributes := #[] }
def k12m1 : Method := { name := "max", desc := "(II)I", sig := { parameters := [.int, .int], returnType := some .int }, accessFlags := 9, code := some k12c1 }
/-- java/lang/Math -/
def k12 : Class := { plain "java/lang/Math" (some 0) with
  accessFlags := 49
  interfaces := #[]
  cf := some (fileOf pool12 1 #[.nestMembers #[98]] #[{ accessFlags := 2, nameIndex := 7, descriptorIndex := 8, attributes := #[] }, { accessFlags := 9, nameIndex := 198, descriptorIndex := 335, attributes := #[] }] 49 4 #[] #[{ accessFlags := 25, nameIndex := 354, descriptorIndex := 339, attributes := #[] }, { accessFlags := 25, nameIndex := 358, descriptorIndex := 339, attributes := #[] }, { accessFlags := 25, nameIndex := 361, descriptorIndex := 339, attributes := #[] }, { accessFlags := 26, nameIndex := 364, descriptorIndex := 339, attributes := #[] }, { accessFlags := 26, nameIndex := 365, descriptorIndex := 339, attributes := #[] }, { accessFlags := 26, nameIndex := 172, descriptorIndex := 173, attributes := #[] }, { accessFlags := 26, nameIndex := 176, descriptorIndex := 173, attributes := #[] }, { accessFlags := 8, nameIndex := 344, descriptorIndex := 339, attributes := #[] }, { accessFlags := 8, nameIndex := 338, descriptorIndex := 339, attributes := #[] }, { accessFlags := 4120, nameIndex := 245, descriptorIndex := 246, attributes := #[] }])
  fields := #[{ name := "E", type := .double, accessFlags := 25, slot := 0, constantValue := 0 }, { name := "PI", type := .double, accessFlags := 25, slot := 1, constantValue := 0 }, { name := "TAU", type := .double, accessFlags := 25, slot := 2, constantValue := 0 }, { name := "DEGREES_TO_RADIANS", type := .double, accessFlags := 26, slot := 3, constantValue := 0 }, { name := "RADIANS_TO_DEGREES", type := .double, accessFlags := 26, slot := 4, constantValue := 0 }, { name := "negativeZeroFloatBits", type := .long, accessFlags := 26, slot := 5, constantValue := 0 }, { name := "negativeZeroDoubleBits", type := .long, accessFlags := 26, slot := 6, constantValue := 0 }, { name := "twoToTheDoubleScaleUp", type := .double, accessFlags := 8, slot := 7, constantValue := 0 }, { name := "twoToTheDoubleScaleDown", type := .double, accessFlags := 8, slot := 8, constantValue := 0 }, { name := "$assertionsDisabled", type := .boolean, accessFlags := 4120, slot := 9, constantValue := 0 }]
  methods := #[k12m0, k12m1]
  instanceTypes := #[]
  staticTypes := #[.double, .double, .double, .double, .double, .long, .long, .double, .double, .boolean]
  resolved := Array.replicate 460 none
  statics := none }

def pool13 : Array CpInfo := pool [(1, u "java/lang/Cloneable"), (0, .class_ 1), (0, u "java/lang/Object"), (0, .class_ 3)] 3

/-- java/lang/Cloneable -/
def k13 : Class := { plain "java/lang/Cloneable" (some 0) with
  accessFlags := 1537
  interfaces := #[]
  cf := some (fileOf pool13 2 #[] #[] 1537 4 #[] #[])
  fields := #[]
  methods := #[]
  instanceTypes := #[]
  staticTypes := #[]
  resolved := Array.replicate 8 none
  statics := none }

/-- the primitive byte -/
def k14 : Class := { plain "byte" none with kind := .primitive 'B', accessFlags := 0x411 }
/-- [B -/
def k15 : Class := { plain "[B" (some 0) with kind := .array 14 .byte, interfaces := #[13, 4], accessFlags := 1041 }

/-- the primitive int -/
def k16 : Class := { plain "int" none with kind := .primitive 'I', accessFlags := 0x411 }
/-- [I -/
def k17 : Class := { plain "[I" (some 0) with kind := .array 16 .int, interfaces := #[13, 4], accessFlags := 1041 }

def heap : Heap := #[]
def classes : Array Class := #[k0, k1, k2, k3, k4, k5, k6, k7, k8, k9, k10, k11, k12, k13, k14, k15, k16, k17]
def interned : List (Array UInt16 × Addr) := []
def slotsUsed : Nat := 0
def theMethod : MethodId := ⟨1, 3⟩
def args0 : Array Value := #[.int 5, .int 6]
def aboutOver (below : List Frame) : State where
  vm := { classes := classes, interned := interned.toArray }
  heap := heap
  slotsUsed := slotsUsed
  threads := #[{ frames := .invoking theMethod args0 :: below }]
def below0 : List Frame := [.native { method := ⟨0, 0⟩, args := #[] }]
def about1 : State := aboutOver below0
def p0 : Program := .bare "" "" ""
def e0 : Env := launch0.env 0 0 0
theorem w_frames : about1.frames = Frame.invoking theMethod args0 :: below0 := rfl
set_option maxRecDepth 65536 in
theorem w_args : argsFit about1.vm theMethod args0 = true := by decide +kernel
set_option maxRecDepth 65536 in
theorem w_heap : heapFits about1 = true := by decide +kernel
set_option maxRecDepth 65536 in
theorem w_runnable : about1.curStatus? = some .runnable := by decide +kernel
set_option maxRecDepth 65536 in
theorem w_alone : about1.alone = true := by decide +kernel
set_option maxRecDepth 65536 in
theorem w_named : about1.methodNamed? x = some theMethod := by decide +kernel
set_option maxRecDepth 65536 in
theorem w_hears : about1.hears theMethod below0 = true := by decide +kernel
set_option maxRecDepth 65536 in
theorem w_ripe : about1.ripe theMethod args0 below0 = true := by decide +kernel
theorem w_running : about1.status = .running := rfl
set_option maxRecDepth 65536 in
theorem w_room : about1.hasRoom e0.platform room_1 = true :=
  launch0.hasRoom_least _ room_1 (by decide +kernel) (by decide +kernel) (by decide +kernel) (by decide +kernel) (by decide +kernel) (by decide +kernel)
theorem allAtoms_all (ts : List Jvm.Cond) (a : Array Jvm.Value) (st : Jvm.State) : (allAtoms ts).before a st = ts.all (fun c => c.before a st) := by
  induction ts with
  | nil => rfl
  | cons c t ih =>
    show (Jvm.Cond.and c (allAtoms t)).before a st = _
    rw [Jvm.Cond.before_and, ih, List.all_cons]
def words1 : List Jvm.Cond := Jvm.Cond.code x code maxLocals ret :: tables_1
/-- a 'code' word, met by the world's own term for the bytes: nothing is compared byte by byte -/
theorem code_word {y : MethodName} {bytes : ByteArray} {mx : Nat} {rt : Option FieldType} {a : Array Value} {s : State} {m : MethodId} {meth : Method} {c : Code} (h1 : s.methodNamed? y = some m) (h2 : s.vm.method? m = some meth) (h3 : meth.code = some c) (h4 : c.code = bytes)
    (h5 : (c.maxLocals == mx && c.exceptionTable.isEmpty && decide (c.maxStack ≤ mostOperands) && decide (meth.sig.returnType = rt) && !meth.locks && decide (parseMethodDescriptor y.desc = some meth.sig)) = true) : (Jvm.Cond.code y bytes mx rt).before a s = true := by
  simp only [Bool.and_eq_true, beq_iff_eq, Bool.not_eq_true', decide_eq_true_eq] at h5
  obtain ⟨⟨⟨⟨⟨g1, g2⟩, g3⟩, g4⟩, g5⟩, g6⟩ := h5
  simp [Cond.before, Cond.holds, Cond.value, h1, h2, h3, h4, g1, g2, g3, g4, g5, g6]
def isCode : Jvm.Cond → Bool
  | .code _ _ _ _ => true
  | _ => false
theorem all_split {L : List Jvm.Cond} {P : Jvm.Cond → Bool} (h1 : L.all (fun c => isCode c || P c) = true) (h2 : ∀ c ∈ L.filter isCode, P c = true) : L.all P = true := by
  refine List.all_eq_true.mpr fun c hc => ?_
  have h := List.all_eq_true.mp h1 c hc
  rcases Bool.eq_false_or_eq_true (isCode c) with hi | hi
  · exact h2 c (List.mem_filter.mpr ⟨hc, hi⟩)
  · simpa [hi] using h
set_option maxRecDepth 65536 in
theorem w_c0 : (Jvm.Cond.code x code maxLocals ret).before args0 about1 = true := code_word (m := ⟨1, 3⟩) (meth := k1m3) (c := k1c3) (by decide +kernel) rfl rfl rfl (by decide +kernel)
set_option maxRecDepth 65536 in
theorem w_c1 : (Jvm.Cond.code ({ cls := "com/example/fencepost/fencepost/connector/RecordLimitLargestValuePinLaw", name := "lenSize", desc := "(I)I" } : Jvm.MethodName) method_2_code (1 : Nat) (Option.some Jvm.ClassFile.FieldType.int)).before args0 about1 = true := code_word (m := ⟨1, 1⟩) (meth := k1m1) (c := k1c1) (by decide +kernel) rfl rfl rfl (by decide +kernel)
set_option maxRecDepth 65536 in
theorem w_c2 : (Jvm.Cond.code ({ cls := "com/example/fencepost/fencepost/connector/RecordLimit", name := "<init>", desc := "(ILjava/lang/String;Ljava/lang/String;)V" } : Jvm.MethodName) prog_16_method_2_code (4 : Nat) (Option.none : Option Jvm.ClassFile.FieldType)).before args0 about1 = true := code_word (m := ⟨3, 0⟩) (meth := k3m0) (c := k3c0) (by decide +kernel) rfl rfl rfl (by decide +kernel)
set_option maxRecDepth 65536 in
theorem w_c3 : (Jvm.Cond.code ({ cls := "java/lang/Record", name := "<init>", desc := "()V" } : Jvm.MethodName) jdk_30_method_1_code (1 : Nat) (Option.none : Option Jvm.ClassFile.FieldType)).before args0 about1 = true := code_word (m := ⟨2, 0⟩) (meth := k2m0) (c := k2c0) (by decide +kernel) rfl rfl rfl (by decide +kernel)
set_option maxRecDepth 65536 in
theorem w_c4 : (Jvm.Cond.code ({ cls := "java/lang/Object", name := "<init>", desc := "()V" } : Jvm.MethodName) object_method_1_code (1 : Nat) (Option.none : Option Jvm.ClassFile.FieldType)).before args0 about1 = true := code_word (m := ⟨0, 0⟩) (meth := k0m0) (c := k0c0) (by decide +kernel) rfl rfl rfl (by decide +kernel)
set_option maxRecDepth 65536 in
theorem w_c5 : (Jvm.Cond.code ({ cls := "com/example/fencepost/fencepost/connector/RecordLimit", name := "largestValue", desc := "([B)I" } : Jvm.MethodName) prog_16_method_4_code (4 : Nat) (Option.some Jvm.ClassFile.FieldType.int)).before args0 about1 = true := code_word (m := ⟨3, 1⟩) (meth := k3m1) (c := k3c1) (by decide +kernel) rfl rfl rfl (by decide +kernel)
set_option maxRecDepth 65536 in
theorem w_c6 : (Jvm.Cond.code ({ cls := "com/example/fencepost/fencepost/connector/RecordLimit", name := "room", desc := "([B)I" } : Jvm.MethodName) prog_16_method_7_code (2 : Nat) (Option.some Jvm.ClassFile.FieldType.int)).before args0 about1 = true := code_word (m := ⟨3, 2⟩) (meth := k3m2) (c := k3c2) (by decide +kernel) rfl rfl rfl (by decide +kernel)
set_option maxRecDepth 65536 in
theorem w_c7 : (Jvm.Cond.code ({ cls := "com/example/fencepost/fencepost/connector/RecordLimit", name := "fieldSize", desc := "([B)I" } : Jvm.MethodName) prog_16_method_8_code (1 : Nat) (Option.some Jvm.ClassFile.FieldType.int)).before args0 about1 = true := code_word (m := ⟨3, 3⟩) (meth := k3m3) (c := k3c3) (by decide +kernel) rfl rfl rfl (by decide +kernel)
set_option maxRecDepth 65536 in
theorem w_c8 : (Jvm.Cond.code ({ cls := "com/example/fencepost/fencepost/connector/RecordLimit", name := "varintSize", desc := "(I)I" } : Jvm.MethodName) prog_16_method_9_code (3 : Nat) (Option.some Jvm.ClassFile.FieldType.int)).before args0 about1 = true := code_word (m := ⟨3, 4⟩) (meth := k3m4) (c := k3c4) (by decide +kernel) rfl rfl rfl (by decide +kernel)
set_option maxRecDepth 65536 in
theorem w_c9 : (Jvm.Cond.code ({ cls := "java/lang/Integer", name := "numberOfLeadingZeros", desc := "(I)I" } : Jvm.MethodName) jdk_33_method_47_code (2 : Nat) (Option.some Jvm.ClassFile.FieldType.int)).before args0 about1 = true := code_word (m := ⟨11, 0⟩) (meth := k11m0) (c := k11c0) (by decide +kernel) rfl rfl rfl (by decide +kernel)
set_option maxRecDepth 65536 in
theorem w_c10 : (Jvm.Cond.code ({ cls := "java/lang/Math", name := "max", desc := "(II)I" } : Jvm.MethodName) jdk_29_method_65_code (2 : Nat) (Option.some Jvm.ClassFile.FieldType.int)).before args0 about1 = true := code_word (m := ⟨12, 1⟩) (meth := k12m1) (c := k12c1) (by decide +kernel) rfl rfl rfl (by decide +kernel)
set_option maxRecDepth 65536 in
theorem w_c11 : (Jvm.Cond.code ({ cls := "com/example/fencepost/fencepost/connector/RecordLimitLargestValuePinLaw", name := "expected", desc := "(I)I" } : Jvm.MethodName) method_3_code (1 : Nat) (Option.some Jvm.ClassFile.FieldType.int)).before args0 about1 = true := code_word (m := ⟨1, 2⟩) (meth := k1m2) (c := k1c2) (by decide +kernel) rfl rfl rfl (by decide +kernel)
def codes1 : List Jvm.Cond := [Jvm.Cond.code x code maxLocals ret, Jvm.Cond.code ({ cls := "com/example/fencepost/fencepost/connector/RecordLimitLargestValuePinLaw", name := "lenSize", desc := "(I)I" } : Jvm.MethodName) method_2_code (1 : Nat) (Option.some Jvm.ClassFile.FieldType.int), Jvm.Cond.code ({ cls := "com/example/fencepost/fencepost/connector/RecordLimit", name := "<init>", desc := "(ILjava/lang/String;Ljava/lang/String;)V" } : Jvm.MethodName) prog_16_method_2_code (4 : Nat) (Option.none : Option Jvm.ClassFile.FieldType), Jvm.Cond.code ({ cls := "java/lang/Record", name := "<init>", desc := "()V" } : Jvm.MethodName) jdk_30_method_1_code (1 : Nat) (Option.none : Option Jvm.ClassFile.FieldType), Jvm.Cond.code ({ cls := "java/lang/Object", name := "<init>", desc := "()V" } : Jvm.MethodName) object_method_1_code (1 : Nat) (Option.none : Option Jvm.ClassFile.FieldType), Jvm.Cond.code ({ cls := "com/example/fencepost/fencepost/connector/RecordLimit", name := "largestValue", desc := "([B)I" } : Jvm.MethodName) prog_16_method_4_code (4 : Nat) (Option.some Jvm.ClassFile.FieldType.int), Jvm.Cond.code ({ cls := "com/example/fencepost/fencepost/connector/RecordLimit", name := "room", desc := "([B)I" } : Jvm.MethodName) prog_16_method_7_code (2 : Nat) (Option.some Jvm.ClassFile.FieldType.int), Jvm.Cond.code ({ cls := "com/example/fencepost/fencepost/connector/RecordLimit", name := "fieldSize", desc := "([B)I" } : Jvm.MethodName) prog_16_method_8_code (1 : Nat) (Option.some Jvm.ClassFile.FieldType.int), Jvm.Cond.code ({ cls := "com/example/fencepost/fencepost/connector/RecordLimit", name := "varintSize", desc := "(I)I" } : Jvm.MethodName) prog_16_method_9_code (3 : Nat) (Option.some Jvm.ClassFile.FieldType.int), Jvm.Cond.code ({ cls := "java/lang/Integer", name := "numberOfLeadingZeros", desc := "(I)I" } : Jvm.MethodName) jdk_33_method_47_code (2 : Nat) (Option.some Jvm.ClassFile.FieldType.int), Jvm.Cond.code ({ cls := "java/lang/Math", name := "max", desc := "(II)I" } : Jvm.MethodName) jdk_29_method_65_code (2 : Nat) (Option.some Jvm.ClassFile.FieldType.int), Jvm.Cond.code ({ cls := "com/example/fencepost/fencepost/connector/RecordLimitLargestValuePinLaw", name := "expected", desc := "(I)I" } : Jvm.MethodName) method_3_code (1 : Nat) (Option.some Jvm.ClassFile.FieldType.int)]
set_option maxRecDepth 65536 in
theorem codes_eq : words1.filter isCode = codes1 := rfl
theorem w_codes : ∀ c ∈ words1.filter isCode, c.before args0 about1 = true := by
  rw [codes_eq]
  intro c hc
  simp only [codes1, List.mem_cons, List.not_mem_nil, or_false] at hc
  rcases hc with rfl | rfl | rfl | rfl | rfl | rfl | rfl | rfl | rfl | rfl | rfl | rfl
  · exact w_c0
  · exact w_c1
  · exact w_c2
  · exact w_c3
  · exact w_c4
  · exact w_c5
  · exact w_c6
  · exact w_c7
  · exact w_c8
  · exact w_c9
  · exact w_c10
  · exact w_c11
set_option maxRecDepth 65536 in
theorem w_t1 : (words1.take 24).all (fun c => isCode c || c.before args0 about1) = true := by decide +kernel
set_option maxRecDepth 65536 in
theorem w_t2 : ((words1.drop 24).take 24).all (fun c => isCode c || c.before args0 about1) = true := by decide +kernel
set_option maxRecDepth 65536 in
theorem w_t3 : ((words1.drop 24).drop 24).all (fun c => isCode c || c.before args0 about1) = true := by decide +kernel
theorem w_tables : (allAtoms (Jvm.Cond.code x code maxLocals ret :: tables_1)).before args0 about1 = true := by
  rw [allAtoms_all]
  show words1.all (fun c => c.before args0 about1) = true
  refine all_split ?_ w_codes
  rw [← List.take_append_drop 24 words1, List.all_append, w_t1, ← List.take_append_drop 24 (words1.drop 24), List.all_append, w_t2, w_t3]
  rfl
set_option maxRecDepth 65536 in
theorem w_case : (Jvm.Cond.and given_1 narrow_1).before args0 about1 = true := by decide +kernel
theorem w_applies : (headSpec (Jvm.Cond.code x code maxLocals ret :: tables_1) room_1).applies x e0.platform about1 = true :=
  (Spec.applies_iff w_frames).mpr ⟨w_running, w_runnable, w_alone, w_named, w_hears, w_ripe, w_room, w_tables⟩
theorem atStart : AtStart classFile x code maxLocals ret World_1 tables_1 room_1 Calls_1 rest_1 Pre_1 launch0 p0 e0 about1 theMethod args0 below0 :=
  ⟨lists_1, trivial, launch0.admits_env _ _ _, launch0.least_env, fairChoices_fair.cas, fairChoices_fair.clock, w_frames, w_args, w_heap, w_applies, trivial, trivial, w_case⟩
end start1
theorem witness_1 : WitnessClaimed_1 := ⟨start1.p0, start1.e0, start1.about1, start1.theMethod, start1.args0, start1.below0, start1.atStart⟩
end Jvm.Pilot.@@N@@
