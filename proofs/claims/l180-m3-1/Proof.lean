import JvmDerived
import JvmDerived.Pilot.@@N@@Statement
import JvmDerived.Pilot.@@N@@Code
set_option linter.unusedVariables false
set_option linter.unusedSimpArgs false
namespace Jvm.Pilot.@@N@@
open Jvm Jvm.ClassFile Sem Op Lib Jvm.Free Jvm.Stand Jvm.LawKit Jvm.RoadKit Bundle Jvm.Pilot.@@N@@.Jvm.D
def own_Go (tb : Tables) (e : Env) (below : List Frame) (P : State → Outcome → Prop) (T : State) (g : JFrame) : Prop := ∃ t o, Steps tb e below (T.setTop g) t ∧ P t o
theorem own_go {tb : Tables} {e : Env} {below : List Frame} {P : State → Outcome → Prop} {T T' : State} {g g' : JFrame} (k : ∀ target, Steps tb e below (T'.setTop g') target → Steps tb e below (T.setTop g) target) (h : own_Go tb e below P T' g') : own_Go tb e below P T g := by
  obtain ⟨t, o, a, b⟩ := h
  exact ⟨t, o, k t a, b⟩
theorem own_cast {P Q : Prop} (h : P = Q) (p : P) : Q := h ▸ p
def own_upd (f : Nat → Value) (k : Nat) (v : Value) : Nat → Value := fun i => if i = k then v else f i
/-- an array of length z at a, its element i being f i -/
def own_AV (Z : State) (h : Heap) (a : Addr) (ty : FieldType) (z : Int32) (f : Nat → Value) : Prop := ¬ z < 0 ∧ ∃ c : Cell, Arr Z h a c ty ∧ c.slots.size = z.toNatClampNeg ∧ ∀ i, i < c.slots.size → c.slots[i]? = some (f i)
section
variable {Z : State} {h h' : Heap} {a b : Addr} {ty : FieldType} {z j : Int32} {f : Nat → Value} {v w : Value} {sl k : Nat} {ws : List Addr} {cA : ClassId}
theorem own_AV.lt (F : own_AV Z h a ty z f) : a < h.size := by obtain ⟨_, c, A, -⟩ := F; exact A.lt
theorem own_AV.ext (F : own_AV Z h a ty z f) (E : Ext h h') : own_AV Z h' a ty z f := by obtain ⟨q, c, A, r⟩ := F; exact ⟨q, c, A.ext E, r⟩
theorem own_AV.other (F : own_AV Z h b ty z f) (W : Wr h h' a sl v) (q : b ≠ a) : own_AV Z h' b ty z f := by obtain ⟨q1, c, A, r⟩ := F; exact ⟨q1, c, A.other W q, r⟩
theorem own_AV.keep (F : own_AV Z h a ty z f) (K : Keep h h' ws) (q : a ∉ ws) : own_AV Z h' a ty z f := by obtain ⟨q1, c, A, r⟩ := F; exact ⟨q1, c, ⟨K.2.1 a c A.1 q, A.2⟩, r⟩
theorem own_AV.new (A : Arr Z h a (newA cA ty z) ty) (q : ¬ z < 0) : own_AV Z h a ty z (fun _ => defaultValue ty) :=
  ⟨q, _, A, sz_new _ _ _, fun i hi => by
    rw [sz_new] at hi
    simp [newA, hi]⟩
theorem own_AV.set (F : own_AV Z h a ty z f) (W : Wr h h' a j.toNatClampNeg v) (hk : j.toNatClampNeg = k) : own_AV Z h' a ty z (own_upd f k v) := by
  obtain ⟨q, c, A, s, t⟩ := F
  subst hk
  refine ⟨q, _, A.same W, by rw [sz_set]; exact s, fun i hi => ?_⟩
  rw [sz_set] at hi
  by_cases e : i = j.toNatClampNeg
  · subst e; simp [own_upd, Cell.setSlot, hi]
  · simp only [own_upd, if_neg e, Cell.setSlot]
    rw [Array.getElem?_setIfInBounds_ne (Ne.symm e)]; exact t i hi
theorem own_at {c : Cell} (t : ∀ i, i < c.slots.size → c.slots[i]? = some (f i)) (s : c.slots.size = z.toNatClampNeg) (hin : ¬ (j < 0 ∨ c.slots.size ≤ j.toNatClampNeg)) (hk : j.toNatClampNeg = k) (hv : f k = v) : c.slots[j.toNatClampNeg]? = some v := by
  rw [t _ (Nat.lt_of_not_le fun q => hin (Or.inr q)), hk, hv]
theorem own_sta_keep {C n d : String} (F : Sta Z h C n d w) (K : Keep h h' ws) (q : ∀ x ∈ ws, ∀ c : Cell, h[x]? = some c → c.vm.isStatics = false) : Sta Z h' C n d w := by
  obtain ⟨cf, i, k, f, st, cell, h1, h2, h3, h4, h5, h6, h7⟩ := F
  exact ⟨cf, i, k, f, st, cell, h1, h2, h3, h4, K.2.1 st cell h5 (fun m => by rw [q st m cell h5] at h6; cases h6), h6, h7⟩
theorem own_exa_plain {C : String} (F : Exa Z h a C) : ∀ c : Cell, h[a]? = some c → c.vm.isStatics = false := fun c hc => by
  obtain ⟨c1, k, h1, -, -, h4, -⟩ := F; cases h1.symm.trans hc; exact h4
theorem own_AV.plain (F : own_AV Z h a ty z f) : ∀ c : Cell, h[a]? = some c → c.vm.isStatics = false := fun c hc => by
  obtain ⟨_, c1, A, -⟩ := F; cases A.1.symm.trans hc; exact A.plain
end
theorem own_narb {x : Int32} (h : x = 0 ∨ x = 1) : nar .boolean x = x := by rcases h with rfl | rfl <;> rfl
theorem own_exa_ref {args : Array Value} {s : State} {t : Term} {C : String} (hx : (Jvm.Cond.exactly t C).value args s none s [] = some true) : ∃ a, t.eval args s none [] s = some (.ref a) ∧ Exa s s.heap a C := by
  obtain ⟨a', c', cell, k, e1, -⟩ := Cond.exactly_spec (Cond.before_iff.mpr hx)
  exact ⟨a', e1, Exa.start e1 hx⟩
theorem own_eq_int {args : Array Value} {s : State} {t : Term} {k : Int32} (h : (Jvm.Cond.eq t (Jvm.Term.int k)).value args s none s [] = some true) : t.eval args s none [] s = some (.int k) := by
  cases hv : t.eval args s none [] s with
  | none => simp [Cond.value, hv] at h
  | some v => cases v <;> simp [Cond.value, hv, Term.eval] at h <;> simp [h]
theorem own_fld_int {args : Array Value} {s : State} {t : Term} {C n d : String} {a : Addr} {k : Int32} (ev : t.eval args s none [] s = some (.ref a)) (h : (Jvm.Cond.eq (Jvm.Term.field t C n d) (Jvm.Term.int k)).value args s none s [] = some true) : Fld s s.heap a C n d (.int k) :=
  Fld.start ((fld_at ev).symm.trans (own_eq_int h))
theorem own_nar_c (x : Int32) : nar .char (x.toUInt32.toUInt16.toUInt32.toInt32) = x.toUInt32.toUInt16.toUInt32.toInt32 := Value.int.inj (Jvm.Free.XT.narrow_c x)
theorem own_nar_b (x : Int32) : nar .byte (x.toInt8.toInt32) = x.toInt8.toInt32 := Value.int.inj (Jvm.Free.XT.narrow_b x)
theorem own_NSroot {Z : State} {a0 : Array Value} {O K : String} {n : Nat} (w : (Jvm.Cond.noSuperclass O).before a0 Z = true) (wk : (Jvm.Cond.instantiable K n).before a0 Z = true) (hn : O ≠ K) : NS Z O K := by
  obtain ⟨c, k, h1, h2, h3, -, -⟩ := Cond.noSuperclass_spec w
  obtain ⟨t, kt, g1, -⟩ := Cond.instantiable_spec wk
  have ne := ids_ne h1 g1 hn
  refine ⟨c, t, h1, g1, fun fuel => ?_⟩
  cases fuel with
  | zero => rfl
  | succ f => simp [Vm.isSubclassAux, ne, h2, h3]
theorem own_NSno {Z : State} {a0 : Array Value} {C S K : String} {m : Nat} (w : (Jvm.Cond.superclass C S).before a0 Z = true) (wk : (Jvm.Cond.instantiable K m).before a0 Z = true) (n : NS Z C K) (hn : C ≠ K) : ∃ c t, Z.vm.findClass C = some c ∧ Z.vm.findClass K = some t ∧ Z.vm.assignable c t = false := by
  obtain ⟨c, t, h0, g0, n3⟩ := n
  obtain ⟨p, k, kp, h1, h2, h3, h4, h5, -, h7⟩ := Cond.superclass_spec h0 w
  obtain ⟨t', k', g1, g2, g5, g7, -⟩ := Cond.instantiable_spec wk
  cases g0.symm.trans g1
  have g8 : k'.isInterface = false := by
    cases hi : k'.isInterface <;> simp [hi] at g7 ⊢
  have ne := ids_ne h0 g0 hn
  refine ⟨c, t, h0, g0, ?_⟩
  show Z.vm.assignableAux (255 + 1) c t = false
  simp [Vm.assignableAux, ne, h2, g2, h5, g5, g8, Vm.isSubclass, n3]
theorem own_monoW {s t : State} {o : Outcome} {L : List Loc} {k n k' n' : Nat} (h : ReturnedEndW s o t L k n) (hk : k ≤ k') (hn : n ≤ n') : ReturnedEndW s o t L k' n' := ⟨h.1, h.2.1, h.2.2.1, h.2.2.2.mono hk hn⟩
theorem own_ldcSL {p : Program} {l : Launch} {e : Env} {R : Room} {s : State} {vm0 : Vm} {m : MethodId} {args : Array Value} {below : List Frame} {meth : Method} {c : Code} {T : State} {locs : List Loc} {cells slots : Nat} {Z : State} {a0 : Array Value} {h : Heap}
    (X : Stand p l e R (s.setVm vm0) m args below meth c T locs cells slots) (hx : p.tables.exec = Jvm.exec) (hZ : Z.Warmed39 vm0) {own text : String} {index : Nat} (hown : vm0.findClass own = some m.cls) (w : (Jvm.Cond.stringLink own index text).before a0 Z = true) (wS : ∀ a ∈ Bundle.stringAtoms, a.before a0 Z = true)
    (eT : T.heap = h) {k0 : Nat} (hS : s.Since vm0 k0) (hk : k0 ≤ h.size) {g : JFrame} (hg : g.method = m) (hd : decode c.code g.pc = .ok (.ldc index, 2)) {n : Nat} (hn : 4 * text.toList.length ≤ n) (hbig : n ≤ 536870912) (hc : cells + 2 ≤ R.cells) (hl : slots + (n + 4) ≤ R.slots) :
    ∃ (a : Addr) (T' : State) (h' : Heap) (k1 : Nat), Stand p l e R (s.setVm T'.vm) m args below meth c T' locs (cells + 2) (slots + (n + 4)) ∧ T'.heap = h' ∧ Ext h h' ∧ s.Since T'.vm k1 ∧ k1 ≤ h'.size ∧ Z.Warmed39 (s.setVm T'.vm).vm ∧ (s.setVm T'.vm).vm.findClass own = some m.cls ∧ Lit (s.setVm T'.vm) own index a ∧ (s.setVm vm0).Warmed39 T'.vm ∧
      ∀ target, Steps p.tables e below (T'.setTop { g with pc := g.pc + 2, stack := .ref a :: g.stack }) target → Steps p.tables e below (T.setTop g) target := by
  have wS' : ∀ d ∈ Bundle.stringAtoms, d.before args (s.setVm vm0) = true := fun d hd => by
    have q := wS d hd
    simp only [Bundle.stringAtoms, List.mem_cons, List.not_mem_nil, or_false] at hd
    rcases hd with rfl | rfl | rfl | rfl | rfl | rfl | rfl
    · exact mv (s := s.setVm vm0) hZ q
    · exact mv (s := s.setVm vm0) hZ q
    · exact mvA (s := s.setVm vm0) hZ q
    · exact mv (s := s.setVm vm0) hZ q
    · exact mv (s := s.setVm vm0) hZ q
    · exact mv (s := s.setVm vm0) hZ q
    · exact mv (s := s.setVm vm0) hZ q
  obtain ⟨a, T', X', hS', ⟨kk, hkk, hrr⟩, hb, -, st⟩ := X.ldcStringCold hx (own := own) hown (mvS hZ w) wS' hg hd hn hbig hc hl
  subst eT
  have hf : T'.vm.findClass own = some m.cls := by rw [hS'.1.alike.findClass]; exact hown
  exact ⟨a, T', _, _, X', rfl, ext_of hb, hS.trans hS' (Nat.le_trans hk (ext_of hb).1), Nat.le_refl _, State.Warmed39.trans (t := s.setVm vm0) hZ hS'.1, hf, by simp [Lit, State.resolvedAt?, hf, hkk, hrr], hS'.1, st⟩
theorem own_selfsel {Z s : State} {a0 args : Array Value} {y : MethodName} {n : Nat} (hZ : Z.Warmed39 s.vm) (wi : (Jvm.Cond.instantiable y.cls n).before a0 Z = true) (wm : (Jvm.Cond.instanceMethod y).before a0 Z = true) (wp : (Jvm.Cond.privateMethod y).before a0 Z = true) (hy : y.cls ≠ "java/lang/invoke/MethodHandle" ∧ y.cls ≠ "java/lang/invoke/VarHandle") : (Jvm.Cond.selects y.cls y y).before args s = true := by
  obtain ⟨c, k, h1, h2, -, h4, -⟩ := Cond.instantiable_spec (mvT (args := args) hZ wi)
  have g8 : k.isInterface = false := by
    cases hi : k.isInterface <;> simp [hi] at h4 ⊢
  exact selects_self_of_private h1 h2 g8 (Cond.privateMethod_at (mvP hZ wp (args := #[]))) (mvT hZ wm) hy
theorem own_addeq {k a b m n : Nat} (h : k = a + b) (h1 : a = m) (h2 : m + b = n) : k = n := by subst h1; exact h.trans h2
theorem own_lt {a b : Nat} (h : a < b) : a < b := h
theorem own_ne {a b : Nat} (h : a < b ∨ b < a) : a ≠ b := by omega

theorem own_pn0 : plainName "com/example/bytewright/bytewright/value/BooleanValue" = true := by first | (simp [plainName, overriddenIn]; done) | decide +kernel
theorem own_pn1 : plainName "com/example/bytewright/bytewright/value/BooleanValueOfPinLaw" = true := by first | (simp [plainName, overriddenIn]; done) | decide +kernel
theorem own_pd0 : parseMethodDescriptor "(Z)Lcom/example/bytewright/bytewright/value/BooleanValue;" = some ⟨[.boolean], some (.object "com/example/bytewright/bytewright/value/BooleanValue")⟩ := by decide +kernel
theorem own_pd1 : parseMethodDescriptor "()Z" = some ⟨[], some .boolean⟩ := by decide +kernel
theorem own_pd2 : parseMethodDescriptor "()Lcom/example/bytewright/bytewright/value/Value$Kind;" = some ⟨[], some (.object "com/example/bytewright/bytewright/value/Value$Kind")⟩ := by decide +kernel
theorem own_d1_0 : decode prog_47_method_2_code 0 = .ok (.iload_n 0, 1) := by decide +kernel
theorem own_d1_1 : decode prog_47_method_2_code 1 = .ok (.ifCond .eq 9, 3) := by decide +kernel
theorem own_d1_4 : decode prog_47_method_2_code 4 = .ok (.getstatic 13, 3) := by decide +kernel
theorem own_d1_7 : decode prog_47_method_2_code 7 = .ok (.goto 6, 3) := by decide +kernel
theorem own_d1_13 : decode prog_47_method_2_code 13 = .ok (.areturn, 1) := by decide +kernel
theorem own_ef_own_rm1t (m : MethodId) (x0 : Int32) : entryFrame m #[(.int x0)] 1 = mkF m 0 #[.val (.int x0)] [] := by first | (simp [entryFrame, mkF, argsToLocals, Value.category]; done) | rfl
def own_Q1t (Z : State) (p_1 : Int32) (ws_TRUE : Addr) (h0 : Heap) (n0 : Nat) (v : Option Value) (h : Heap) (L : List Loc) : Prop := v = some (.ref ws_TRUE) ∧ Fr n0 L ∧ h = h0
set_option maxRecDepth 65536 in
set_option maxHeartbeats 40000000 in
theorem own_rm1t (l : Launch) (Z : State) (a0 : Array Value) (hw : ∀ d ∈ tables_1, d.before a0 Z = true) (ws : List Jvm.Cond) (p_1 : Int32) (ws_TRUE : Addr) (h0 : Heap) (n0 : Nat) (Z0 : n0 ≤ h0.size) (hp : ¬ (p_1 = 0)) (pr_S_com_example_bytewright_bytewright_value_BooleanValue_TRUE : Sta Z h0 "com/example/bytewright/bytewright/value/BooleanValue" "TRUE" "Lcom/example/bytewright/bytewright/value/BooleanValue;" (.ref ws_TRUE)) :
    MetFree l (⟨"com/example/bytewright/bytewright/value/BooleanValue", "of", "(Z)Lcom/example/bytewright/bytewright/value/BooleanValue;"⟩ : MethodName) (head1 (Jvm.Cond.code (⟨"com/example/bytewright/bytewright/value/BooleanValue", "of", "(Z)Lcom/example/bytewright/bytewright/value/BooleanValue;"⟩ : MethodName) prog_47_method_2_code 1 (some (.object "com/example/bytewright/bytewright/value/BooleanValue")) :: ws) ({ frames := 0, cells := 0, slots := 0, locals := 0 } : Room)) (fun a U => a = #[(.int p_1)] ∧ Z.Warmed39 U.vm ∧ U.heap = h0) (fun _ _ _ _ _ => True) (fun _ U o U' => ∃ v L, o = .returned v ∧ own_Q1t Z p_1 ws_TRUE h0 n0 v U'.heap L ∧ FrameEnd U o U' L ({ frames := 0, cells := 0, slots := 0, locals := 0 } : Room).cells ({ frames := 0, cells := 0, slots := 0, locals := 0 } : Room).slots) := by
  refine MetFree.of_bodySF (plainFor_of_name own_pn0) hisR ?_
  intro p e s m args below meth c s₁ Bd hml0 hP hK
  obtain ⟨rfl, hZ, hh⟩ := hP
  have hx := Bd.exec
  have hby := Bd.bytes
  have hml : c.maxLocals = 1 := hml0
  have hown : s.vm.findClass "com/example/bytewright/bytewright/value/BooleanValue" = some m.cls := findClass_of_methodNamed Bd.named
  have hnm := (name_of_methodNamed Bd.named Bd.method).1
  have X0 : Stand p l e ({ frames := 0, cells := 0, slots := 0, locals := 0 } : Room) s m #[(.int p_1)] below meth c s₁ [] 0 0 := Stand.of_body Bd
  have e0 : s₁.heap = h0 := by rw [← hh, Bd.state]; rfl
  have N0 := Fr.nil n0
  have z0 : n0 ≤ h0.size := Z0
  show own_Go p.tables e below (fun t o => t.status = .running ∧ Ended t below o ∧ ∃ v L, o = .returned v ∧ own_Q1t Z p_1 ws_TRUE h0 n0 v t.heap L ∧ FrameEnd s o t L ({ frames := 0, cells := 0, slots := 0, locals := 0 } : Room).cells ({ frames := 0, cells := 0, slots := 0, locals := 0 } : Room).slots) s₁ (entryFrame m #[(.int p_1)] 1)
  rw [own_ef_own_rm1t m p_1]
  show own_Go _ _ _ _ s₁ (mkF m 0 #[.val (.int p_1)] [])
  refine own_go (fun _ k => XS.iloadN X0.here hx rfl (hb hby own_d1_0) rfl k) ?_
  show own_Go _ _ _ _ s₁ (mkF m 1 #[.val (.int p_1)] [(.int p_1)])
  refine own_go (fun _ k => XS.ifNo X0.here hx rfl (hb hby own_d1_1) rfl (Jvm.Free.XT.i0_eq_f hp) k) ?_
  show own_Go _ _ _ _ s₁ (mkF m 4 #[.val (.int p_1)] [])
  obtain ⟨T2, X2, e2, st2⟩ := getS2 X0 hx hZ hown (host := "") (Or.inl (hw _ (List.mem_of_getElem? (i := 23) rfl))) Via.refl e0 pr_S_com_example_bytewright_bytewright_value_BooleanValue_TRUE (g := (mkF m 4 #[.val (.int p_1)] [])) rfl (hb hby own_d1_4)
  refine own_go (fun _ k => st2 _ k) ?_
  show own_Go _ _ _ _ T2 (mkF m 7 #[.val (.int p_1)] [(.ref ws_TRUE)])
  refine own_go (fun _ k => XS.goto X2.here hx rfl (pc0 := 7) (pc' := 13) rfl (hb hby own_d1_7) (by decide) (by decide) k) ?_
  show own_Go _ _ _ _ T2 (mkF m 13 #[.val (.int p_1)] [(.ref ws_TRUE)])
  obtain ⟨fs, hr, hrun, hended, hW, hsame⟩ := X2.leave (v := some (.ref ws_TRUE)) (fun h => by rw [Bd.returns] at h; cases h)
  refine ⟨_, _, retOut X2 hx Bd.returns rfl (Or.inr (Or.inr (Or.inr (Or.inr ⟨rfl, rfl, rfl⟩)))) (hb hby own_d1_13) hr, hrun, hended, _, _, rfl, ?_, ⟨_, rfl⟩, hW, hsame.mono (by decide) (by decide)⟩
  show own_Q1t Z p_1 ws_TRUE h0 n0 _ T2.heap _
  rw [e2]
  exact ⟨rfl, N0, rfl⟩
theorem own_d1_10 : decode prog_47_method_2_code 10 = .ok (.getstatic 17, 3) := by decide +kernel
theorem own_ef_own_rm1f (m : MethodId) (x0 : Int32) : entryFrame m #[(.int x0)] 1 = mkF m 0 #[.val (.int x0)] [] := by first | (simp [entryFrame, mkF, argsToLocals, Value.category]; done) | rfl
def own_Q1f (Z : State) (p_1 : Int32) (ws_FALSE : Addr) (h0 : Heap) (n0 : Nat) (v : Option Value) (h : Heap) (L : List Loc) : Prop := v = some (.ref ws_FALSE) ∧ Fr n0 L ∧ h = h0
set_option maxRecDepth 65536 in
set_option maxHeartbeats 40000000 in
theorem own_rm1f (l : Launch) (Z : State) (a0 : Array Value) (hw : ∀ d ∈ tables_1, d.before a0 Z = true) (ws : List Jvm.Cond) (p_1 : Int32) (ws_FALSE : Addr) (h0 : Heap) (n0 : Nat) (Z0 : n0 ≤ h0.size) (hp : p_1 = 0) (pr_S_com_example_bytewright_bytewright_value_BooleanValue_FALSE : Sta Z h0 "com/example/bytewright/bytewright/value/BooleanValue" "FALSE" "Lcom/example/bytewright/bytewright/value/BooleanValue;" (.ref ws_FALSE)) :
    MetFree l (⟨"com/example/bytewright/bytewright/value/BooleanValue", "of", "(Z)Lcom/example/bytewright/bytewright/value/BooleanValue;"⟩ : MethodName) (head1 (Jvm.Cond.code (⟨"com/example/bytewright/bytewright/value/BooleanValue", "of", "(Z)Lcom/example/bytewright/bytewright/value/BooleanValue;"⟩ : MethodName) prog_47_method_2_code 1 (some (.object "com/example/bytewright/bytewright/value/BooleanValue")) :: ws) ({ frames := 0, cells := 0, slots := 0, locals := 0 } : Room)) (fun a U => a = #[(.int p_1)] ∧ Z.Warmed39 U.vm ∧ U.heap = h0) (fun _ _ _ _ _ => True) (fun _ U o U' => ∃ v L, o = .returned v ∧ own_Q1f Z p_1 ws_FALSE h0 n0 v U'.heap L ∧ FrameEnd U o U' L ({ frames := 0, cells := 0, slots := 0, locals := 0 } : Room).cells ({ frames := 0, cells := 0, slots := 0, locals := 0 } : Room).slots) := by
  refine MetFree.of_bodySF (plainFor_of_name own_pn0) hisR ?_
  intro p e s m args below meth c s₁ Bd hml0 hP hK
  obtain ⟨rfl, hZ, hh⟩ := hP
  have hx := Bd.exec
  have hby := Bd.bytes
  have hml : c.maxLocals = 1 := hml0
  have hown : s.vm.findClass "com/example/bytewright/bytewright/value/BooleanValue" = some m.cls := findClass_of_methodNamed Bd.named
  have hnm := (name_of_methodNamed Bd.named Bd.method).1
  have X0 : Stand p l e ({ frames := 0, cells := 0, slots := 0, locals := 0 } : Room) s m #[(.int p_1)] below meth c s₁ [] 0 0 := Stand.of_body Bd
  have e0 : s₁.heap = h0 := by rw [← hh, Bd.state]; rfl
  have N0 := Fr.nil n0
  have z0 : n0 ≤ h0.size := Z0
  show own_Go p.tables e below (fun t o => t.status = .running ∧ Ended t below o ∧ ∃ v L, o = .returned v ∧ own_Q1f Z p_1 ws_FALSE h0 n0 v t.heap L ∧ FrameEnd s o t L ({ frames := 0, cells := 0, slots := 0, locals := 0 } : Room).cells ({ frames := 0, cells := 0, slots := 0, locals := 0 } : Room).slots) s₁ (entryFrame m #[(.int p_1)] 1)
  rw [own_ef_own_rm1f m p_1]
  show own_Go _ _ _ _ s₁ (mkF m 0 #[.val (.int p_1)] [])
  refine own_go (fun _ k => XS.iloadN X0.here hx rfl (hb hby own_d1_0) rfl k) ?_
  show own_Go _ _ _ _ s₁ (mkF m 1 #[.val (.int p_1)] [(.int p_1)])
  refine own_go (fun _ k => XS.ifYes X0.here hx rfl (pc0 := 1) (pc' := 10) rfl (hb hby own_d1_1) rfl (Jvm.Free.XT.i0_eq_t hp) (by decide) (by decide) k) ?_
  show own_Go _ _ _ _ s₁ (mkF m 10 #[.val (.int p_1)] [])
  obtain ⟨T2, X2, e2, st2⟩ := getS2 X0 hx hZ hown (host := "") (Or.inl (hw _ (List.mem_of_getElem? (i := 4) rfl))) Via.refl e0 pr_S_com_example_bytewright_bytewright_value_BooleanValue_FALSE (g := (mkF m 10 #[.val (.int p_1)] [])) rfl (hb hby own_d1_10)
  refine own_go (fun _ k => st2 _ k) ?_
  show own_Go _ _ _ _ T2 (mkF m 13 #[.val (.int p_1)] [(.ref ws_FALSE)])
  obtain ⟨fs, hr, hrun, hended, hW, hsame⟩ := X2.leave (v := some (.ref ws_FALSE)) (fun h => by rw [Bd.returns] at h; cases h)
  refine ⟨_, _, retOut X2 hx Bd.returns rfl (Or.inr (Or.inr (Or.inr (Or.inr ⟨rfl, rfl, rfl⟩)))) (hb hby own_d1_13) hr, hrun, hended, _, _, rfl, ?_, ⟨_, rfl⟩, hW, hsame.mono (by decide) (by decide)⟩
  show own_Q1f Z p_1 ws_FALSE h0 n0 _ T2.heap _
  rw [e2]
  exact ⟨rfl, N0, rfl⟩
theorem own_d2_0 : decode prog_47_method_3_code 0 = .ok (.aload_n 0, 1) := by decide +kernel
theorem own_d2_1 : decode prog_47_method_3_code 1 = .ok (.getfield 7, 3) := by decide +kernel
theorem own_d2_4 : decode prog_47_method_3_code 4 = .ok (.ireturn, 1) := by decide +kernel
theorem own_ef_own_rm2 (m : MethodId) (x0 : Addr) : entryFrame m #[(.ref x0)] 1 = mkF m 0 #[.val (.ref x0)] [] := by first | (simp [entryFrame, mkF, argsToLocals, Value.category]; done) | rfl
def own_Q2 (Z : State) (a_1 : Addr) (w_value_a_1 : Int32) (h0 : Heap) (n0 : Nat) (v : Option Value) (h : Heap) (L : List Loc) : Prop := v = some (.int w_value_a_1) ∧ Fr n0 L ∧ h = h0
set_option maxRecDepth 65536 in
set_option maxHeartbeats 40000000 in
theorem own_rm2 (l : Launch) (Z : State) (a0 : Array Value) (hw : ∀ d ∈ tables_1, d.before a0 Z = true) (ws : List Jvm.Cond) (a_1 : Addr) (w_value_a_1 : Int32) (h0 : Heap) (n0 : Nat) (Z0 : n0 ≤ h0.size) (hbb : w_value_a_1 = 0 ∨ w_value_a_1 = 1) (pr_F_a_1_value : Fld Z h0 a_1 "com/example/bytewright/bytewright/value/BooleanValue" "value" "Z" (.int w_value_a_1)) :
    MetFree l (⟨"com/example/bytewright/bytewright/value/BooleanValue", "value", "()Z"⟩ : MethodName) (head1 (Jvm.Cond.code (⟨"com/example/bytewright/bytewright/value/BooleanValue", "value", "()Z"⟩ : MethodName) prog_47_method_3_code 1 (some .boolean) :: ws) ({ frames := 0, cells := 0, slots := 0, locals := 0 } : Room)) (fun a U => a = #[(.ref a_1)] ∧ Z.Warmed39 U.vm ∧ U.heap = h0) (fun _ _ _ _ _ => True) (fun _ U o U' => ∃ v L, o = .returned v ∧ own_Q2 Z a_1 w_value_a_1 h0 n0 v U'.heap L ∧ FrameEnd U o U' L ({ frames := 0, cells := 0, slots := 0, locals := 0 } : Room).cells ({ frames := 0, cells := 0, slots := 0, locals := 0 } : Room).slots) := by
  refine MetFree.of_bodySF (plainFor_of_name own_pn0) hisR ?_
  intro p e s m args below meth c s₁ Bd hml0 hP hK
  obtain ⟨rfl, hZ, hh⟩ := hP
  have hx := Bd.exec
  have hby := Bd.bytes
  have hml : c.maxLocals = 1 := hml0
  have hown : s.vm.findClass "com/example/bytewright/bytewright/value/BooleanValue" = some m.cls := findClass_of_methodNamed Bd.named
  have hnm := (name_of_methodNamed Bd.named Bd.method).1
  have X0 : Stand p l e ({ frames := 0, cells := 0, slots := 0, locals := 0 } : Room) s m #[(.ref a_1)] below meth c s₁ [] 0 0 := Stand.of_body Bd
  have e0 : s₁.heap = h0 := by rw [← hh, Bd.state]; rfl
  have N0 := Fr.nil n0
  have z0 : n0 ≤ h0.size := Z0
  have z1 := own_lt pr_F_a_1_value.lt
  show own_Go p.tables e below (fun t o => t.status = .running ∧ Ended t below o ∧ ∃ v L, o = .returned v ∧ own_Q2 Z a_1 w_value_a_1 h0 n0 v t.heap L ∧ FrameEnd s o t L ({ frames := 0, cells := 0, slots := 0, locals := 0 } : Room).cells ({ frames := 0, cells := 0, slots := 0, locals := 0 } : Room).slots) s₁ (entryFrame m #[(.ref a_1)] 1)
  rw [own_ef_own_rm2 m a_1]
  show own_Go _ _ _ _ s₁ (mkF m 0 #[.val (.ref a_1)] [])
  refine own_go (fun _ k => XS.aloadN X0.here hx rfl (hb hby own_d2_0) rfl rfl k) ?_
  show own_Go _ _ _ _ s₁ (mkF m 1 #[.val (.ref a_1)] [(.ref a_1)])
  obtain ⟨T2, X2, e2, st2⟩ := getF X0 hx hZ hown (host := "") (Or.inl (hw _ (List.mem_of_getElem? (i := 11) rfl))) Via.refl e0 pr_F_a_1_value (g := (mkF m 1 #[.val (.ref a_1)] [(.ref a_1)])) rfl rfl (hb hby own_d2_1)
  refine own_go (fun _ k => st2 _ k) ?_
  show own_Go _ _ _ _ T2 (mkF m 4 #[.val (.ref a_1)] [(.int w_value_a_1)])
  obtain ⟨fs, hr, hrun, hended, hW, hsame⟩ := X2.leave (v := some (.int w_value_a_1)) (fun h => by rw [Bd.returns] at h; cases h)
  refine ⟨_, _, retOut X2 hx Bd.returns (show narrow .boolean (.int w_value_a_1) = (.int w_value_a_1) from congrArg Value.int (own_narb hbb)) (Or.inl ⟨rfl, Or.inr (Or.inl rfl), _, rfl⟩) (hb hby own_d2_4) hr, hrun, hended, _, _, rfl, ?_, ⟨_, rfl⟩, hW, hsame.mono (by decide) (by decide)⟩
  show own_Q2 Z a_1 w_value_a_1 h0 n0 _ T2.heap _
  rw [e2]
  exact ⟨rfl, N0, rfl⟩
theorem own_d3_0 : decode prog_47_method_4_code 0 = .ok (.getstatic 20, 3) := by decide +kernel
theorem own_d3_3 : decode prog_47_method_4_code 3 = .ok (.areturn, 1) := by decide +kernel
theorem own_ef_own_rm3 (m : MethodId) (x0 : Addr) : entryFrame m #[(.ref x0)] 1 = mkF m 0 #[.val (.ref x0)] [] := by first | (simp [entryFrame, mkF, argsToLocals, Value.category]; done) | rfl
def own_Q3 (Z : State) (a_1 : Addr) (ws_BOOLEAN : Addr) (h0 : Heap) (n0 : Nat) (v : Option Value) (h : Heap) (L : List Loc) : Prop := v = some (.ref ws_BOOLEAN) ∧ Fr n0 L ∧ h = h0
set_option maxRecDepth 65536 in
set_option maxHeartbeats 40000000 in
theorem own_rm3 (l : Launch) (Z : State) (a0 : Array Value) (hw : ∀ d ∈ tables_1, d.before a0 Z = true) (ws : List Jvm.Cond) (a_1 : Addr) (ws_BOOLEAN : Addr) (h0 : Heap) (n0 : Nat) (Z0 : n0 ≤ h0.size) (pr_S_com_example_bytewright_bytewright_value_Value_Kind_BOOLEAN : Sta Z h0 "com/example/bytewright/bytewright/value/Value$Kind" "BOOLEAN" "Lcom/example/bytewright/bytewright/value/Value$Kind;" (.ref ws_BOOLEAN)) :
    MetFree l (⟨"com/example/bytewright/bytewright/value/BooleanValue", "kind", "()Lcom/example/bytewright/bytewright/value/Value$Kind;"⟩ : MethodName) (head1 (Jvm.Cond.code (⟨"com/example/bytewright/bytewright/value/BooleanValue", "kind", "()Lcom/example/bytewright/bytewright/value/Value$Kind;"⟩ : MethodName) prog_47_method_4_code 1 (some (.object "com/example/bytewright/bytewright/value/Value$Kind")) :: ws) ({ frames := 0, cells := 0, slots := 0, locals := 0 } : Room)) (fun a U => a = #[(.ref a_1)] ∧ Z.Warmed39 U.vm ∧ U.heap = h0) (fun _ _ _ _ _ => True) (fun _ U o U' => ∃ v L, o = .returned v ∧ own_Q3 Z a_1 ws_BOOLEAN h0 n0 v U'.heap L ∧ FrameEnd U o U' L ({ frames := 0, cells := 0, slots := 0, locals := 0 } : Room).cells ({ frames := 0, cells := 0, slots := 0, locals := 0 } : Room).slots) := by
  refine MetFree.of_bodySF (plainFor_of_name own_pn0) hisR ?_
  intro p e s m args below meth c s₁ Bd hml0 hP hK
  obtain ⟨rfl, hZ, hh⟩ := hP
  have hx := Bd.exec
  have hby := Bd.bytes
  have hml : c.maxLocals = 1 := hml0
  have hown : s.vm.findClass "com/example/bytewright/bytewright/value/BooleanValue" = some m.cls := findClass_of_methodNamed Bd.named
  have hnm := (name_of_methodNamed Bd.named Bd.method).1
  have X0 : Stand p l e ({ frames := 0, cells := 0, slots := 0, locals := 0 } : Room) s m #[(.ref a_1)] below meth c s₁ [] 0 0 := Stand.of_body Bd
  have e0 : s₁.heap = h0 := by rw [← hh, Bd.state]; rfl
  have N0 := Fr.nil n0
  have z0 : n0 ≤ h0.size := Z0
  show own_Go p.tables e below (fun t o => t.status = .running ∧ Ended t below o ∧ ∃ v L, o = .returned v ∧ own_Q3 Z a_1 ws_BOOLEAN h0 n0 v t.heap L ∧ FrameEnd s o t L ({ frames := 0, cells := 0, slots := 0, locals := 0 } : Room).cells ({ frames := 0, cells := 0, slots := 0, locals := 0 } : Room).slots) s₁ (entryFrame m #[(.ref a_1)] 1)
  rw [own_ef_own_rm3 m a_1]
  show own_Go _ _ _ _ s₁ (mkF m 0 #[.val (.ref a_1)] [])
  obtain ⟨T1, X1, e1, st1⟩ := getS2 X0 hx hZ hown (host := "") (Or.inl (hw _ (List.mem_of_getElem? (i := 18) rfl))) Via.refl e0 pr_S_com_example_bytewright_bytewright_value_Value_Kind_BOOLEAN (g := (mkF m 0 #[.val (.ref a_1)] [])) rfl (hb hby own_d3_0)
  refine own_go (fun _ k => st1 _ k) ?_
  show own_Go _ _ _ _ T1 (mkF m 3 #[.val (.ref a_1)] [(.ref ws_BOOLEAN)])
  obtain ⟨fs, hr, hrun, hended, hW, hsame⟩ := X1.leave (v := some (.ref ws_BOOLEAN)) (fun h => by rw [Bd.returns] at h; cases h)
  refine ⟨_, _, retOut X1 hx Bd.returns rfl (Or.inr (Or.inr (Or.inr (Or.inr ⟨rfl, rfl, rfl⟩)))) (hb hby own_d3_3) hr, hrun, hended, _, _, rfl, ?_, ⟨_, rfl⟩, hW, hsame.mono (by decide) (by decide)⟩
  show own_Q3 Z a_1 ws_BOOLEAN h0 n0 _ T1.heap _
  rw [e1]
  exact ⟨rfl, N0, rfl⟩
theorem own_ef_own_rm0 (m : MethodId) (x0 : Int32) : entryFrame m #[(.int x0)] maxLocals = mkF m 0 #[.val (.int x0), .unset, .unset, .unset, .unset, .unset, .unset, .unset] [] := by first | (simp [entryFrame, mkF, argsToLocals, Value.category, maxLocals]; done) | rfl
def own_Q0 (Z : State) (p_1 : Int32) (ws_TRUE : Addr) (ws_FALSE : Addr) (ws_BOOLEAN : Addr) (h0 : Heap) (n0 : Nat) (v : Option Value) (h : Heap) (L : List Loc) : Prop := v = some (.int (1 : Int32)) ∧ Fr n0 L
set_option maxRecDepth 65536 in
set_option maxHeartbeats 40000000 in
theorem own_rm0 (l : Launch) (Z : State) (a0 : Array Value) (hw : ∀ d ∈ tables_1, d.before a0 Z = true) (ws : List Jvm.Cond) (p_1 : Int32) (ws_TRUE : Addr) (ws_FALSE : Addr) (ws_BOOLEAN : Addr) (h0 : Heap) (n0 : Nat) (Z0 : n0 ≤ h0.size) (pr_S_com_example_bytewright_bytewright_value_BooleanValue_TRUE : Sta Z h0 "com/example/bytewright/bytewright/value/BooleanValue" "TRUE" "Lcom/example/bytewright/bytewright/value/BooleanValue;" (.ref ws_TRUE)) (pr_S_com_example_bytewright_bytewright_value_BooleanValue_FALSE : Sta Z h0 "com/example/bytewright/bytewright/value/BooleanValue" "FALSE" "Lcom/example/bytewright/bytewright/value/BooleanValue;" (.ref ws_FALSE)) (pr_S_com_example_bytewright_bytewright_value_Value_Kind_BOOLEAN : Sta Z h0 "com/example/bytewright/bytewright/value/Value$Kind" "BOOLEAN" "Lcom/example/bytewright/bytewright/value/Value$Kind;" (.ref ws_BOOLEAN)) (pr_E_ws_TRUE : Exa Z h0 ws_TRUE "com/example/bytewright/bytewright/value/BooleanValue") (pr_E_ws_FALSE : Exa Z h0 ws_FALSE "com/example/bytewright/bytewright/value/BooleanValue") (pr_F_ws_TRUE_value : Fld Z h0 ws_TRUE "com/example/bytewright/bytewright/value/BooleanValue" "value" "Z" (.int (1 : Int32))) (pr_F_ws_FALSE_value : Fld Z h0 ws_FALSE "com/example/bytewright/bytewright/value/BooleanValue" "value" "Z" (.int (0 : Int32))) :
    MetFree l x (head1 (Jvm.Cond.code x code maxLocals ret :: ws) room_1) (fun a U => a = #[(.int p_1)] ∧ Z.Warmed39 U.vm ∧ U.heap = h0) (fun _ _ _ _ _ => True) (fun _ U o U' => ∃ v L, o = .returned v ∧ own_Q0 Z p_1 ws_TRUE ws_FALSE ws_BOOLEAN h0 n0 v U'.heap L ∧ FrameEnd U o U' L 0 0) := by
  refine MetFree.of_bodySF (plainFor_of_name own_pn1) hisR ?_
  intro p e s m args below meth c s₁ Bd hml0 hP hK
  obtain ⟨rfl, hZ, hh⟩ := hP
  have hx := Bd.exec
  have hby := Bd.bytes
  have hml : c.maxLocals = 8 := hml0
  have hown : s.vm.findClass "com/example/bytewright/bytewright/value/BooleanValueOfPinLaw" = some m.cls := findClass_of_methodNamed Bd.named
  have hnm := (name_of_methodNamed Bd.named Bd.method).1
  have X0 : Stand p l e room_1 s m #[(.int p_1)] below meth c s₁ [] 0 0 := Stand.of_body Bd
  have e0 : s₁.heap = h0 := by rw [← hh, Bd.state]; rfl
  have N0 := Fr.nil n0
  have z0 : n0 ≤ h0.size := Z0
  have z1 := own_lt pr_E_ws_TRUE.lt
  have z2 := own_lt pr_E_ws_FALSE.lt
  have z3 := own_lt pr_F_ws_TRUE_value.lt
  have z4 := own_lt pr_F_ws_FALSE_value.lt
  show own_Go p.tables e below (fun t o => t.status = .running ∧ Ended t below o ∧ ∃ v L, o = .returned v ∧ own_Q0 Z p_1 ws_TRUE ws_FALSE ws_BOOLEAN h0 n0 v t.heap L ∧ FrameEnd s o t L 0 0) s₁ (entryFrame m #[(.int p_1)] maxLocals)
  rw [own_ef_own_rm0 m p_1]
  show own_Go _ _ _ _ s₁ (mkF m 0 #[.val (.int p_1), .unset, .unset, .unset, .unset, .unset, .unset, .unset] [])
  refine own_go (fun _ k => XS.iloadN X0.here hx rfl (hb hby at_0) rfl k) ?_
  show own_Go _ _ _ _ s₁ (mkF m 1 #[.val (.int p_1), .unset, .unset, .unset, .unset, .unset, .unset, .unset] [(.int p_1)])
  refine own_go (fun _ k => XS.iconst X0.here hx rfl (hb hby at_1) k) ?_
  show own_Go _ _ _ _ s₁ (mkF m 2 #[.val (.int p_1), .unset, .unset, .unset, .unset, .unset, .unset, .unset] [(.int (1 : Int32)), (.int p_1)])
  refine own_go (fun _ k => XS.iand X0.here hx rfl (hb hby at_2) rfl k) ?_
  show own_Go _ _ _ _ s₁ (mkF m 3 #[.val (.int p_1), .unset, .unset, .unset, .unset, .unset, .unset, .unset] [(.int (p_1 &&& (1 : Int32)))])
  by_cases hc5 : (p_1 &&& (1 : Int32)) = 0
  · refine own_go (fun _ k => XS.ifYes X0.here hx rfl (pc0 := 3) (pc' := 10) rfl (hb hby at_3) rfl (Jvm.Free.XT.i0_eq_t hc5) (by decide) (by decide) k) ?_
    show own_Go _ _ _ _ s₁ (mkF m 10 #[.val (.int p_1), .unset, .unset, .unset, .unset, .unset, .unset, .unset] [])
    refine own_go (fun _ k => XS.iconst X0.here hx rfl (hb hby at_10) k) ?_
    show own_Go _ _ _ _ s₁ (mkF m 11 #[.val (.int p_1), .unset, .unset, .unset, .unset, .unset, .unset, .unset] [(.int (0 : Int32))])
    refine own_go (fun _ k => XS.istoreN X0.here hx rfl (hb hby at_11) rfl (l' := #[.val (.int p_1), .val (.int (0 : Int32)), .unset, .unset, .unset, .unset, .unset, .unset]) rfl k) ?_
    show own_Go _ _ _ _ s₁ (mkF m 12 #[.val (.int p_1), .val (.int (0 : Int32)), .unset, .unset, .unset, .unset, .unset, .unset] [])
    refine own_go (fun _ k => XS.iloadN X0.here hx rfl (hb hby at_12) rfl k) ?_
    show own_Go _ _ _ _ s₁ (mkF m 13 #[.val (.int p_1), .val (.int (0 : Int32)), .unset, .unset, .unset, .unset, .unset, .unset] [(.int (0 : Int32))])
    obtain ⟨_, _, ⟨T6, L6, k6, n6⟩, -, X6, ⟨Lc6, hQ6, l6, y6, z6⟩, st6⟩ := Jvm.LawKit.callS X0 hx (y := (⟨"com/example/bytewright/bytewright/value/BooleanValue", "of", "(Z)Lcom/example/bytewright/bytewright/value/BooleanValue;"⟩ : MethodName)) hown (mvT hZ (hw _ (List.mem_of_getElem? (i := 0) rfl))) (mvT hZ (hw _ (List.mem_of_getElem? (i := 1) rfl))) (mvT hZ (hw _ (List.mem_of_getElem? (i := 2) rfl))) (mvT hZ (hw _ (List.mem_of_getElem? (i := 3) rfl))) (by decide) (backOf (W := 0) (own_rm1f l Z a0 hw [] (0 : Int32) ws_FALSE h0 n0 (by omega) (show (0 : Int32) = 0 by first | assumption | omega | decide) pr_S_com_example_bytewright_bytewright_value_BooleanValue_FALSE) hZ (hw _ (List.mem_of_getElem? (i := 3) rfl)) (hw _ (List.mem_of_getElem? (i := 2) rfl)) (by decide) (by decide)) (g := (mkF m 13 #[.val (.int p_1), .val (.int (0 : Int32)), .unset, .unset, .unset, .unset, .unset, .unset] [(.int (0 : Int32))])) rfl (by rw [hml]; rfl) (argsL := [(.int (0 : Int32))]) (rest := []) (lenOf own_pd0 rfl) rfl (by show 2 * 0 + _ ≤ _; exact Nat.le_of_eq rfl) (hb hby at_13) (fun _ _ => ⟨rfl, e0, (by decide : 0 + 0 ≤ _), (by decide : 0 + 0 ≤ _)⟩)
    dsimp only [Pt.U, Pt.locs, Pt.cells, Pt.slots] at X6 l6 y6 z6 st6 hQ6
    have y6 : k6 = 0 := y6
    have z6 : n6 = 0 := z6
    obtain ⟨rfl, N6q, e6⟩ := hQ6
    have N6 : Fr n0 L6 := by rw [l6]; exact Fr.app N0 N6q
    refine own_go (fun _ k => st6 _ k) ?_
    show own_Go _ _ _ _ T6 (mkF m 16 #[.val (.int p_1), .val (.int (0 : Int32)), .unset, .unset, .unset, .unset, .unset, .unset] [(.ref ws_FALSE)])
    refine own_go (fun _ k => XS.astoreN X6.here hx rfl (hb hby at_16) rfl rfl (l' := #[.val (.int p_1), .val (.int (0 : Int32)), .val (.ref ws_FALSE), .unset, .unset, .unset, .unset, .unset]) rfl k) ?_
    show own_Go _ _ _ _ T6 (mkF m 17 #[.val (.int p_1), .val (.int (0 : Int32)), .val (.ref ws_FALSE), .unset, .unset, .unset, .unset, .unset] [])
    refine own_go (fun _ k => XS.iloadN X6.here hx rfl (hb hby at_17) rfl k) ?_
    show own_Go _ _ _ _ T6 (mkF m 18 #[.val (.int p_1), .val (.int (0 : Int32)), .val (.ref ws_FALSE), .unset, .unset, .unset, .unset, .unset] [(.int (0 : Int32))])
    obtain ⟨_, _, ⟨T7, L7, k7, n7⟩, -, X7, ⟨Lc7, hQ7, l7, y7, z7⟩, st7⟩ := Jvm.LawKit.callS X6 hx (y := (⟨"com/example/bytewright/bytewright/value/BooleanValue", "of", "(Z)Lcom/example/bytewright/bytewright/value/BooleanValue;"⟩ : MethodName)) hown (mvT hZ (hw _ (List.mem_of_getElem? (i := 0) rfl))) (mvT hZ (hw _ (List.mem_of_getElem? (i := 1) rfl))) (mvT hZ (hw _ (List.mem_of_getElem? (i := 2) rfl))) (mvT hZ (hw _ (List.mem_of_getElem? (i := 3) rfl))) (by decide) (backOf (W := 0) (own_rm1f l Z a0 hw [] (0 : Int32) ws_FALSE h0 n0 (by omega) (show (0 : Int32) = 0 by first | assumption | omega | decide) pr_S_com_example_bytewright_bytewright_value_BooleanValue_FALSE) hZ (hw _ (List.mem_of_getElem? (i := 3) rfl)) (hw _ (List.mem_of_getElem? (i := 2) rfl)) (by decide) (by decide)) (g := (mkF m 18 #[.val (.int p_1), .val (.int (0 : Int32)), .val (.ref ws_FALSE), .unset, .unset, .unset, .unset, .unset] [(.int (0 : Int32))])) rfl (by rw [hml]; rfl) (argsL := [(.int (0 : Int32))]) (rest := []) (lenOf own_pd0 rfl) rfl (by show 2 * 0 + _ ≤ _; exact Nat.le_of_eq rfl) (hb hby at_18) (fun _ _ => ⟨rfl, e6, (by show k6 + _ ≤ _; rw [y6]; decide), (by show n6 + _ ≤ _; rw [z6]; decide)⟩)
    dsimp only [Pt.U, Pt.locs, Pt.cells, Pt.slots] at X7 l7 y7 z7 st7 hQ7
    have y7 : k7 = 0 := own_addeq y7 (congrArg (fun q => q) y6) rfl
    have z7 : n7 = 0 := own_addeq z7 (congrArg (fun q => q) z6) rfl
    obtain ⟨rfl, N7q, e7⟩ := hQ7
    have N7 : Fr n0 L7 := by rw [l7]; exact Fr.app N6 N7q
    refine own_go (fun _ k => st7 _ k) ?_
    show own_Go _ _ _ _ T7 (mkF m 21 #[.val (.int p_1), .val (.int (0 : Int32)), .val (.ref ws_FALSE), .unset, .unset, .unset, .unset, .unset] [(.ref ws_FALSE)])
    refine own_go (fun _ k => XS.astoreN X7.here hx rfl (hb hby at_21) rfl rfl (l' := #[.val (.int p_1), .val (.int (0 : Int32)), .val (.ref ws_FALSE), .val (.ref ws_FALSE), .unset, .unset, .unset, .unset]) rfl k) ?_
    show own_Go _ _ _ _ T7 (mkF m 22 #[.val (.int p_1), .val (.int (0 : Int32)), .val (.ref ws_FALSE), .val (.ref ws_FALSE), .unset, .unset, .unset, .unset] [])
    refine own_go (fun _ k => XS.aloadN X7.here hx rfl (hb hby at_22) rfl rfl k) ?_
    show own_Go _ _ _ _ T7 (mkF m 23 #[.val (.int p_1), .val (.int (0 : Int32)), .val (.ref ws_FALSE), .val (.ref ws_FALSE), .unset, .unset, .unset, .unset] [(.ref ws_FALSE)])
    obtain ⟨cq8, kq8, q8a, q8b, q8c⟩ := isOf hZ e7 pr_E_ws_FALSE
    obtain ⟨_, _, ⟨T8, L8, k8, n8⟩, -, X8, ⟨Lc8, hQ8, l8, y8, z8⟩, st8⟩ := X7.virtualBack hx (y := (⟨"com/example/bytewright/bytewright/value/BooleanValue", "value", "()Z"⟩ : MethodName)) (z := (⟨"com/example/bytewright/bytewright/value/BooleanValue", "value", "()Z"⟩ : MethodName)) hown (mvT hZ (hw _ (List.mem_of_getElem? (i := 6) rfl))) (mvT hZ (hw _ (List.mem_of_getElem? (i := 7) rfl))) (notFace_of_selects (args := #[]) (mvT hZ (hw _ (List.mem_of_getElem? (i := 9) rfl)))) (mvT hZ (hw _ (List.mem_of_getElem? (i := 9) rfl))) (mvT hZ (hw _ (List.mem_of_getElem? (i := 8) rfl))) (by decide) (backOf (W := 0) (own_rm2 l Z a0 hw [] ws_FALSE (0 : Int32) h0 n0 (by omega) (show (0 : Int32) = 0 ∨ (0 : Int32) = 1 by first | assumption | omega | decide) pr_F_ws_FALSE_value) hZ (hw _ (List.mem_of_getElem? (i := 10) rfl)) (hw _ (List.mem_of_getElem? (i := 2) rfl)) (by decide) (by decide)) q8a q8c (g := (mkF m 23 #[.val (.int p_1), .val (.int (0 : Int32)), .val (.ref ws_FALSE), .val (.ref ws_FALSE), .unset, .unset, .unset, .unset] [(.ref ws_FALSE)])) rfl (by rw [hml]; rfl) (Steps.refl _) (argsL := []) (rest := []) (lenOf own_pd1 rfl) rfl (by show 2 * 0 + _ ≤ _; exact Nat.le_of_eq rfl) (hb hby at_23) (fun _ _ => ⟨rfl, e7, (by show k7 + _ ≤ _; rw [y7]; decide), (by show n7 + _ ≤ _; rw [z7]; decide)⟩)
    dsimp only [Pt.U, Pt.locs, Pt.cells, Pt.slots] at X8 l8 y8 z8 st8 hQ8
    have y8 : k8 = 0 := own_addeq y8 (congrArg (fun q => q) y7) rfl
    have z8 : n8 = 0 := own_addeq z8 (congrArg (fun q => q) z7) rfl
    obtain ⟨rfl, N8q, e8⟩ := hQ8
    have N8 : Fr n0 L8 := by rw [l8]; exact Fr.app N7 N8q
    refine own_go (fun _ k => st8.trans k) ?_
    show own_Go _ _ _ _ T8 (mkF m 26 #[.val (.int p_1), .val (.int (0 : Int32)), .val (.ref ws_FALSE), .val (.ref ws_FALSE), .unset, .unset, .unset, .unset] [(.int (0 : Int32))])
    refine own_go (fun _ k => XS.iloadN X8.here hx rfl (hb hby at_26) rfl k) ?_
    show own_Go _ _ _ _ T8 (mkF m 27 #[.val (.int p_1), .val (.int (0 : Int32)), .val (.ref ws_FALSE), .val (.ref ws_FALSE), .unset, .unset, .unset, .unset] [(.int (0 : Int32)), (.int (0 : Int32))])
    have hc9 : (0 : Int32) = (0 : Int32) := by decide
    refine own_go (fun _ k => XS.icmpNo X8.here hx rfl (hb hby at_27) rfl (Jvm.Free.XT.ii_ne_f hc9) k) ?_
    show own_Go _ _ _ _ T8 (mkF m 30 #[.val (.int p_1), .val (.int (0 : Int32)), .val (.ref ws_FALSE), .val (.ref ws_FALSE), .unset, .unset, .unset, .unset] [])
    refine own_go (fun _ k => XS.iconst X8.here hx rfl (hb hby at_30) k) ?_
    show own_Go _ _ _ _ T8 (mkF m 31 #[.val (.int p_1), .val (.int (0 : Int32)), .val (.ref ws_FALSE), .val (.ref ws_FALSE), .unset, .unset, .unset, .unset] [(.int (1 : Int32))])
    refine own_go (fun _ k => XS.goto X8.here hx rfl (pc0 := 31) (pc' := 35) rfl (hb hby at_31) (by decide) (by decide) k) ?_
    show own_Go _ _ _ _ T8 (mkF m 35 #[.val (.int p_1), .val (.int (0 : Int32)), .val (.ref ws_FALSE), .val (.ref ws_FALSE), .unset, .unset, .unset, .unset] [(.int (1 : Int32))])
    refine own_go (fun _ k => XS.istore X8.here hx rfl (hb hby at_35) rfl (l' := #[.val (.int p_1), .val (.int (0 : Int32)), .val (.ref ws_FALSE), .val (.ref ws_FALSE), .val (.int (1 : Int32)), .unset, .unset, .unset]) rfl k) ?_
    show own_Go _ _ _ _ T8 (mkF m 37 #[.val (.int p_1), .val (.int (0 : Int32)), .val (.ref ws_FALSE), .val (.ref ws_FALSE), .val (.int (1 : Int32)), .unset, .unset, .unset] [])
    refine own_go (fun _ k => XS.aloadN X8.here hx rfl (hb hby at_37) rfl rfl k) ?_
    show own_Go _ _ _ _ T8 (mkF m 38 #[.val (.int p_1), .val (.int (0 : Int32)), .val (.ref ws_FALSE), .val (.ref ws_FALSE), .val (.int (1 : Int32)), .unset, .unset, .unset] [(.ref ws_FALSE)])
    obtain ⟨cq10, kq10, q10a, q10b, q10c⟩ := isOf hZ e8 pr_E_ws_FALSE
    obtain ⟨_, _, ⟨T10, L10, k10, n10⟩, -, X10, ⟨Lc10, hQ10, l10, y10, z10⟩, st10⟩ := X8.virtualBack hx (y := (⟨"com/example/bytewright/bytewright/value/BooleanValue", "kind", "()Lcom/example/bytewright/bytewright/value/Value$Kind;"⟩ : MethodName)) (z := (⟨"com/example/bytewright/bytewright/value/BooleanValue", "kind", "()Lcom/example/bytewright/bytewright/value/Value$Kind;"⟩ : MethodName)) hown (mvT hZ (hw _ (List.mem_of_getElem? (i := 13) rfl))) (mvT hZ (hw _ (List.mem_of_getElem? (i := 14) rfl))) (notFace_of_selects (args := #[]) (mvT hZ (hw _ (List.mem_of_getElem? (i := 16) rfl)))) (mvT hZ (hw _ (List.mem_of_getElem? (i := 16) rfl))) (mvT hZ (hw _ (List.mem_of_getElem? (i := 15) rfl))) (by decide) (backOf (W := 0) (own_rm3 l Z a0 hw [] ws_FALSE ws_BOOLEAN h0 n0 (by omega) pr_S_com_example_bytewright_bytewright_value_Value_Kind_BOOLEAN) hZ (hw _ (List.mem_of_getElem? (i := 17) rfl)) (hw _ (List.mem_of_getElem? (i := 2) rfl)) (by decide) (by decide)) q10a q10c (g := (mkF m 38 #[.val (.int p_1), .val (.int (0 : Int32)), .val (.ref ws_FALSE), .val (.ref ws_FALSE), .val (.int (1 : Int32)), .unset, .unset, .unset] [(.ref ws_FALSE)])) rfl (by rw [hml]; rfl) (Steps.refl _) (argsL := []) (rest := []) (lenOf own_pd2 rfl) rfl (by show 2 * 0 + _ ≤ _; exact Nat.le_of_eq rfl) (hb hby at_38) (fun _ _ => ⟨rfl, e8, (by show k8 + _ ≤ _; rw [y8]; decide), (by show n8 + _ ≤ _; rw [z8]; decide)⟩)
    dsimp only [Pt.U, Pt.locs, Pt.cells, Pt.slots] at X10 l10 y10 z10 st10 hQ10
    have y10 : k10 = 0 := own_addeq y10 (congrArg (fun q => q) y8) rfl
    have z10 : n10 = 0 := own_addeq z10 (congrArg (fun q => q) z8) rfl
    obtain ⟨rfl, N10q, e10⟩ := hQ10
    have N10 : Fr n0 L10 := by rw [l10]; exact Fr.app N8 N10q
    refine own_go (fun _ k => st10.trans k) ?_
    show own_Go _ _ _ _ T10 (mkF m 41 #[.val (.int p_1), .val (.int (0 : Int32)), .val (.ref ws_FALSE), .val (.ref ws_FALSE), .val (.int (1 : Int32)), .unset, .unset, .unset] [(.ref ws_BOOLEAN)])
    obtain ⟨T11, X11, e11, st11⟩ := getS2 X10 hx hZ hown (host := "") (Or.inl (hw _ (List.mem_of_getElem? (i := 21) rfl))) Via.refl e10 pr_S_com_example_bytewright_bytewright_value_Value_Kind_BOOLEAN (g := (mkF m 41 #[.val (.int p_1), .val (.int (0 : Int32)), .val (.ref ws_FALSE), .val (.ref ws_FALSE), .val (.int (1 : Int32)), .unset, .unset, .unset] [(.ref ws_BOOLEAN)])) rfl (hb hby at_41)
    refine own_go (fun _ k => st11 _ k) ?_
    show own_Go _ _ _ _ T11 (mkF m 44 #[.val (.int p_1), .val (.int (0 : Int32)), .val (.ref ws_FALSE), .val (.ref ws_FALSE), .val (.int (1 : Int32)), .unset, .unset, .unset] [(.ref ws_BOOLEAN), (.ref ws_BOOLEAN)])
    refine own_go (fun _ k => Jvm.RoadKit.acmp (g := (mkF m 44 #[.val (.int p_1), .val (.int (0 : Int32)), .val (.ref ws_FALSE), .val (.ref ws_FALSE), .val (.int (1 : Int32)), .unset, .unset, .unset] [(.ref ws_BOOLEAN), (.ref ws_BOOLEAN)])) X11 hx rfl rfl rfl (pc0 := 44) (pc' := 47) (same := true) rfl (hb hby at_44) rfl (decide_eq_true rfl) (by decide) (by decide) k) ?_
    show own_Go _ _ _ _ T11 (mkF m 47 #[.val (.int p_1), .val (.int (0 : Int32)), .val (.ref ws_FALSE), .val (.ref ws_FALSE), .val (.int (1 : Int32)), .unset, .unset, .unset] [])
    refine own_go (fun _ k => XS.iconst X11.here hx rfl (hb hby at_47) k) ?_
    show own_Go _ _ _ _ T11 (mkF m 48 #[.val (.int p_1), .val (.int (0 : Int32)), .val (.ref ws_FALSE), .val (.ref ws_FALSE), .val (.int (1 : Int32)), .unset, .unset, .unset] [(.int (1 : Int32))])
    refine own_go (fun _ k => XS.goto X11.here hx rfl (pc0 := 48) (pc' := 52) rfl (hb hby at_48) (by decide) (by decide) k) ?_
    show own_Go _ _ _ _ T11 (mkF m 52 #[.val (.int p_1), .val (.int (0 : Int32)), .val (.ref ws_FALSE), .val (.ref ws_FALSE), .val (.int (1 : Int32)), .unset, .unset, .unset] [(.int (1 : Int32))])
    refine own_go (fun _ k => XS.istore X11.here hx rfl (hb hby at_52) rfl (l' := #[.val (.int p_1), .val (.int (0 : Int32)), .val (.ref ws_FALSE), .val (.ref ws_FALSE), .val (.int (1 : Int32)), .val (.int (1 : Int32)), .unset, .unset]) rfl k) ?_
    show own_Go _ _ _ _ T11 (mkF m 54 #[.val (.int p_1), .val (.int (0 : Int32)), .val (.ref ws_FALSE), .val (.ref ws_FALSE), .val (.int (1 : Int32)), .val (.int (1 : Int32)), .unset, .unset] [])
    refine own_go (fun _ k => XS.iloadN X11.here hx rfl (hb hby at_54) rfl k) ?_
    show own_Go _ _ _ _ T11 (mkF m 55 #[.val (.int p_1), .val (.int (0 : Int32)), .val (.ref ws_FALSE), .val (.ref ws_FALSE), .val (.int (1 : Int32)), .val (.int (1 : Int32)), .unset, .unset] [(.int (0 : Int32))])
    have hc12 : (0 : Int32) = 0 := by decide
    refine own_go (fun _ k => XS.ifYes X11.here hx rfl (pc0 := 55) (pc' := 73) rfl (hb hby at_55) rfl (Jvm.Free.XT.i0_eq_t hc12) (by decide) (by decide) k) ?_
    show own_Go _ _ _ _ T11 (mkF m 73 #[.val (.int p_1), .val (.int (0 : Int32)), .val (.ref ws_FALSE), .val (.ref ws_FALSE), .val (.int (1 : Int32)), .val (.int (1 : Int32)), .unset, .unset] [])
    refine own_go (fun _ k => XS.aloadN X11.here hx rfl (hb hby at_73) rfl rfl k) ?_
    show own_Go _ _ _ _ T11 (mkF m 74 #[.val (.int p_1), .val (.int (0 : Int32)), .val (.ref ws_FALSE), .val (.ref ws_FALSE), .val (.int (1 : Int32)), .val (.int (1 : Int32)), .unset, .unset] [(.ref ws_FALSE)])
    obtain ⟨T13, X13, e13, st13⟩ := getS2 X11 hx hZ hown (host := "") (Or.inl (hw _ (List.mem_of_getElem? (i := 22) rfl))) Via.refl e11 pr_S_com_example_bytewright_bytewright_value_BooleanValue_FALSE (g := (mkF m 74 #[.val (.int p_1), .val (.int (0 : Int32)), .val (.ref ws_FALSE), .val (.ref ws_FALSE), .val (.int (1 : Int32)), .val (.int (1 : Int32)), .unset, .unset] [(.ref ws_FALSE)])) rfl (hb hby at_74)
    refine own_go (fun _ k => st13 _ k) ?_
    show own_Go _ _ _ _ T13 (mkF m 77 #[.val (.int p_1), .val (.int (0 : Int32)), .val (.ref ws_FALSE), .val (.ref ws_FALSE), .val (.int (1 : Int32)), .val (.int (1 : Int32)), .unset, .unset] [(.ref ws_FALSE), (.ref ws_FALSE)])
    refine own_go (fun _ k => Jvm.RoadKit.acmp (g := (mkF m 77 #[.val (.int p_1), .val (.int (0 : Int32)), .val (.ref ws_FALSE), .val (.ref ws_FALSE), .val (.int (1 : Int32)), .val (.int (1 : Int32)), .unset, .unset] [(.ref ws_FALSE), (.ref ws_FALSE)])) X13 hx rfl rfl rfl (pc0 := 77) (pc' := 80) (same := true) rfl (hb hby at_77) rfl (decide_eq_true rfl) (by decide) (by decide) k) ?_
    show own_Go _ _ _ _ T13 (mkF m 80 #[.val (.int p_1), .val (.int (0 : Int32)), .val (.ref ws_FALSE), .val (.ref ws_FALSE), .val (.int (1 : Int32)), .val (.int (1 : Int32)), .unset, .unset] [])
    refine own_go (fun _ k => XS.iconst X13.here hx rfl (hb hby at_80) k) ?_
    show own_Go _ _ _ _ T13 (mkF m 81 #[.val (.int p_1), .val (.int (0 : Int32)), .val (.ref ws_FALSE), .val (.ref ws_FALSE), .val (.int (1 : Int32)), .val (.int (1 : Int32)), .unset, .unset] [(.int (1 : Int32))])
    refine own_go (fun _ k => XS.goto X13.here hx rfl (pc0 := 81) (pc' := 85) rfl (hb hby at_81) (by decide) (by decide) k) ?_
    show own_Go _ _ _ _ T13 (mkF m 85 #[.val (.int p_1), .val (.int (0 : Int32)), .val (.ref ws_FALSE), .val (.ref ws_FALSE), .val (.int (1 : Int32)), .val (.int (1 : Int32)), .unset, .unset] [(.int (1 : Int32))])
    refine own_go (fun _ k => XS.istore X13.here hx rfl (hb hby at_85) rfl (l' := #[.val (.int p_1), .val (.int (0 : Int32)), .val (.ref ws_FALSE), .val (.ref ws_FALSE), .val (.int (1 : Int32)), .val (.int (1 : Int32)), .val (.int (1 : Int32)), .unset]) rfl k) ?_
    show own_Go _ _ _ _ T13 (mkF m 87 #[.val (.int p_1), .val (.int (0 : Int32)), .val (.ref ws_FALSE), .val (.ref ws_FALSE), .val (.int (1 : Int32)), .val (.int (1 : Int32)), .val (.int (1 : Int32)), .unset] [])
    refine own_go (fun _ k => XS.aloadN X13.here hx rfl (hb hby at_87) rfl rfl k) ?_
    show own_Go _ _ _ _ T13 (mkF m 88 #[.val (.int p_1), .val (.int (0 : Int32)), .val (.ref ws_FALSE), .val (.ref ws_FALSE), .val (.int (1 : Int32)), .val (.int (1 : Int32)), .val (.int (1 : Int32)), .unset] [(.ref ws_FALSE)])
    refine own_go (fun _ k => XS.aloadN X13.here hx rfl (hb hby at_88) rfl rfl k) ?_
    show own_Go _ _ _ _ T13 (mkF m 89 #[.val (.int p_1), .val (.int (0 : Int32)), .val (.ref ws_FALSE), .val (.ref ws_FALSE), .val (.int (1 : Int32)), .val (.int (1 : Int32)), .val (.int (1 : Int32)), .unset] [(.ref ws_FALSE), (.ref ws_FALSE)])
    refine own_go (fun _ k => Jvm.RoadKit.acmp (g := (mkF m 89 #[.val (.int p_1), .val (.int (0 : Int32)), .val (.ref ws_FALSE), .val (.ref ws_FALSE), .val (.int (1 : Int32)), .val (.int (1 : Int32)), .val (.int (1 : Int32)), .unset] [(.ref ws_FALSE), (.ref ws_FALSE)])) X13 hx rfl rfl rfl (pc0 := 89) (pc' := 92) (same := true) rfl (hb hby at_89) rfl (decide_eq_true rfl) (by decide) (by decide) k) ?_
    show own_Go _ _ _ _ T13 (mkF m 92 #[.val (.int p_1), .val (.int (0 : Int32)), .val (.ref ws_FALSE), .val (.ref ws_FALSE), .val (.int (1 : Int32)), .val (.int (1 : Int32)), .val (.int (1 : Int32)), .unset] [])
    refine own_go (fun _ k => XS.iconst X13.here hx rfl (hb hby at_92) k) ?_
    show own_Go _ _ _ _ T13 (mkF m 93 #[.val (.int p_1), .val (.int (0 : Int32)), .val (.ref ws_FALSE), .val (.ref ws_FALSE), .val (.int (1 : Int32)), .val (.int (1 : Int32)), .val (.int (1 : Int32)), .unset] [(.int (1 : Int32))])
    refine own_go (fun _ k => XS.goto X13.here hx rfl (pc0 := 93) (pc' := 97) rfl (hb hby at_93) (by decide) (by decide) k) ?_
    show own_Go _ _ _ _ T13 (mkF m 97 #[.val (.int p_1), .val (.int (0 : Int32)), .val (.ref ws_FALSE), .val (.ref ws_FALSE), .val (.int (1 : Int32)), .val (.int (1 : Int32)), .val (.int (1 : Int32)), .unset] [(.int (1 : Int32))])
    refine own_go (fun _ k => XS.istore X13.here hx rfl (hb hby at_97) rfl (l' := #[.val (.int p_1), .val (.int (0 : Int32)), .val (.ref ws_FALSE), .val (.ref ws_FALSE), .val (.int (1 : Int32)), .val (.int (1 : Int32)), .val (.int (1 : Int32)), .val (.int (1 : Int32))]) rfl k) ?_
    show own_Go _ _ _ _ T13 (mkF m 99 #[.val (.int p_1), .val (.int (0 : Int32)), .val (.ref ws_FALSE), .val (.ref ws_FALSE), .val (.int (1 : Int32)), .val (.int (1 : Int32)), .val (.int (1 : Int32)), .val (.int (1 : Int32))] [])
    refine own_go (fun _ k => XS.iload X13.here hx rfl (hb hby at_99) rfl k) ?_
    show own_Go _ _ _ _ T13 (mkF m 101 #[.val (.int p_1), .val (.int (0 : Int32)), .val (.ref ws_FALSE), .val (.ref ws_FALSE), .val (.int (1 : Int32)), .val (.int (1 : Int32)), .val (.int (1 : Int32)), .val (.int (1 : Int32))] [(.int (1 : Int32))])
    have hc14 : ¬ ((1 : Int32) = 0) := by decide
    refine own_go (fun _ k => XS.ifNo X13.here hx rfl (hb hby at_101) rfl (Jvm.Free.XT.i0_eq_f hc14) k) ?_
    show own_Go _ _ _ _ T13 (mkF m 104 #[.val (.int p_1), .val (.int (0 : Int32)), .val (.ref ws_FALSE), .val (.ref ws_FALSE), .val (.int (1 : Int32)), .val (.int (1 : Int32)), .val (.int (1 : Int32)), .val (.int (1 : Int32))] [])
    refine own_go (fun _ k => XS.iload X13.here hx rfl (hb hby at_104) rfl k) ?_
    show own_Go _ _ _ _ T13 (mkF m 106 #[.val (.int p_1), .val (.int (0 : Int32)), .val (.ref ws_FALSE), .val (.ref ws_FALSE), .val (.int (1 : Int32)), .val (.int (1 : Int32)), .val (.int (1 : Int32)), .val (.int (1 : Int32))] [(.int (1 : Int32))])
    have hc15 : ¬ ((1 : Int32) = 0) := by decide
    refine own_go (fun _ k => XS.ifNo X13.here hx rfl (hb hby at_106) rfl (Jvm.Free.XT.i0_eq_f hc15) k) ?_
    show own_Go _ _ _ _ T13 (mkF m 109 #[.val (.int p_1), .val (.int (0 : Int32)), .val (.ref ws_FALSE), .val (.ref ws_FALSE), .val (.int (1 : Int32)), .val (.int (1 : Int32)), .val (.int (1 : Int32)), .val (.int (1 : Int32))] [])
    refine own_go (fun _ k => XS.iload X13.here hx rfl (hb hby at_109) rfl k) ?_
    show own_Go _ _ _ _ T13 (mkF m 111 #[.val (.int p_1), .val (.int (0 : Int32)), .val (.ref ws_FALSE), .val (.ref ws_FALSE), .val (.int (1 : Int32)), .val (.int (1 : Int32)), .val (.int (1 : Int32)), .val (.int (1 : Int32))] [(.int (1 : Int32))])
    have hc16 : ¬ ((1 : Int32) = 0) := by decide
    refine own_go (fun _ k => XS.ifNo X13.here hx rfl (hb hby at_111) rfl (Jvm.Free.XT.i0_eq_f hc16) k) ?_
    show own_Go _ _ _ _ T13 (mkF m 114 #[.val (.int p_1), .val (.int (0 : Int32)), .val (.ref ws_FALSE), .val (.ref ws_FALSE), .val (.int (1 : Int32)), .val (.int (1 : Int32)), .val (.int (1 : Int32)), .val (.int (1 : Int32))] [])
    refine own_go (fun _ k => XS.iload X13.here hx rfl (hb hby at_114) rfl k) ?_
    show own_Go _ _ _ _ T13 (mkF m 116 #[.val (.int p_1), .val (.int (0 : Int32)), .val (.ref ws_FALSE), .val (.ref ws_FALSE), .val (.int (1 : Int32)), .val (.int (1 : Int32)), .val (.int (1 : Int32)), .val (.int (1 : Int32))] [(.int (1 : Int32))])
    have hc17 : ¬ ((1 : Int32) = 0) := by decide
    refine own_go (fun _ k => XS.ifNo X13.here hx rfl (hb hby at_116) rfl (Jvm.Free.XT.i0_eq_f hc17) k) ?_
    show own_Go _ _ _ _ T13 (mkF m 119 #[.val (.int p_1), .val (.int (0 : Int32)), .val (.ref ws_FALSE), .val (.ref ws_FALSE), .val (.int (1 : Int32)), .val (.int (1 : Int32)), .val (.int (1 : Int32)), .val (.int (1 : Int32))] [])
    refine own_go (fun _ k => XS.iconst X13.here hx rfl (hb hby at_119) k) ?_
    show own_Go _ _ _ _ T13 (mkF m 120 #[.val (.int p_1), .val (.int (0 : Int32)), .val (.ref ws_FALSE), .val (.ref ws_FALSE), .val (.int (1 : Int32)), .val (.int (1 : Int32)), .val (.int (1 : Int32)), .val (.int (1 : Int32))] [(.int (1 : Int32))])
    refine own_go (fun _ k => XS.goto X13.here hx rfl (pc0 := 120) (pc' := 124) rfl (hb hby at_120) (by decide) (by decide) k) ?_
    show own_Go _ _ _ _ T13 (mkF m 124 #[.val (.int p_1), .val (.int (0 : Int32)), .val (.ref ws_FALSE), .val (.ref ws_FALSE), .val (.int (1 : Int32)), .val (.int (1 : Int32)), .val (.int (1 : Int32)), .val (.int (1 : Int32))] [(.int (1 : Int32))])
    obtain ⟨fs, hr, hrun, hended, hW, hsame⟩ := X13.leave (v := some (.int (1 : Int32))) (fun h => by rw [Bd.returns] at h; cases h)
    refine ⟨_, _, retOut X13 hx Bd.returns rfl (Or.inl ⟨rfl, Or.inr (Or.inl rfl), _, rfl⟩) (hb hby at_124) hr, hrun, hended, _, _, rfl, ?_, ⟨_, rfl⟩, hW, hsame.mono (by rw [y10]; decide) (by rw [z10]; decide)⟩
    show own_Q0 Z p_1 ws_TRUE ws_FALSE ws_BOOLEAN h0 n0 _ T13.heap _
    rw [e13]
    exact ⟨rfl, N10⟩
  · refine own_go (fun _ k => XS.ifNo X0.here hx rfl (hb hby at_3) rfl (Jvm.Free.XT.i0_eq_f hc5) k) ?_
    show own_Go _ _ _ _ s₁ (mkF m 6 #[.val (.int p_1), .unset, .unset, .unset, .unset, .unset, .unset, .unset] [])
    refine own_go (fun _ k => XS.iconst X0.here hx rfl (hb hby at_6) k) ?_
    show own_Go _ _ _ _ s₁ (mkF m 7 #[.val (.int p_1), .unset, .unset, .unset, .unset, .unset, .unset, .unset] [(.int (1 : Int32))])
    refine own_go (fun _ k => XS.goto X0.here hx rfl (pc0 := 7) (pc' := 11) rfl (hb hby at_7) (by decide) (by decide) k) ?_
    show own_Go _ _ _ _ s₁ (mkF m 11 #[.val (.int p_1), .unset, .unset, .unset, .unset, .unset, .unset, .unset] [(.int (1 : Int32))])
    refine own_go (fun _ k => XS.istoreN X0.here hx rfl (hb hby at_11) rfl (l' := #[.val (.int p_1), .val (.int (1 : Int32)), .unset, .unset, .unset, .unset, .unset, .unset]) rfl k) ?_
    show own_Go _ _ _ _ s₁ (mkF m 12 #[.val (.int p_1), .val (.int (1 : Int32)), .unset, .unset, .unset, .unset, .unset, .unset] [])
    refine own_go (fun _ k => XS.iloadN X0.here hx rfl (hb hby at_12) rfl k) ?_
    show own_Go _ _ _ _ s₁ (mkF m 13 #[.val (.int p_1), .val (.int (1 : Int32)), .unset, .unset, .unset, .unset, .unset, .unset] [(.int (1 : Int32))])
    obtain ⟨_, _, ⟨T19, L19, k19, n19⟩, -, X19, ⟨Lc19, hQ19, l19, y19, z19⟩, st19⟩ := Jvm.LawKit.callS X0 hx (y := (⟨"com/example/bytewright/bytewright/value/BooleanValue", "of", "(Z)Lcom/example/bytewright/bytewright/value/BooleanValue;"⟩ : MethodName)) hown (mvT hZ (hw _ (List.mem_of_getElem? (i := 0) rfl))) (mvT hZ (hw _ (List.mem_of_getElem? (i := 1) rfl))) (mvT hZ (hw _ (List.mem_of_getElem? (i := 2) rfl))) (mvT hZ (hw _ (List.mem_of_getElem? (i := 3) rfl))) (by decide) (backOf (W := 0) (own_rm1t l Z a0 hw [] (1 : Int32) ws_TRUE h0 n0 (by omega) (show ¬ ((1 : Int32) = 0) by first | assumption | omega | decide) pr_S_com_example_bytewright_bytewright_value_BooleanValue_TRUE) hZ (hw _ (List.mem_of_getElem? (i := 3) rfl)) (hw _ (List.mem_of_getElem? (i := 2) rfl)) (by decide) (by decide)) (g := (mkF m 13 #[.val (.int p_1), .val (.int (1 : Int32)), .unset, .unset, .unset, .unset, .unset, .unset] [(.int (1 : Int32))])) rfl (by rw [hml]; rfl) (argsL := [(.int (1 : Int32))]) (rest := []) (lenOf own_pd0 rfl) rfl (by show 2 * 0 + _ ≤ _; exact Nat.le_of_eq rfl) (hb hby at_13) (fun _ _ => ⟨rfl, e0, (by decide : 0 + 0 ≤ _), (by decide : 0 + 0 ≤ _)⟩)
    dsimp only [Pt.U, Pt.locs, Pt.cells, Pt.slots] at X19 l19 y19 z19 st19 hQ19
    have y19 : k19 = 0 := y19
    have z19 : n19 = 0 := z19
    obtain ⟨rfl, N19q, e19⟩ := hQ19
    have N19 : Fr n0 L19 := by rw [l19]; exact Fr.app N0 N19q
    refine own_go (fun _ k => st19 _ k) ?_
    show own_Go _ _ _ _ T19 (mkF m 16 #[.val (.int p_1), .val (.int (1 : Int32)), .unset, .unset, .unset, .unset, .unset, .unset] [(.ref ws_TRUE)])
    refine own_go (fun _ k => XS.astoreN X19.here hx rfl (hb hby at_16) rfl rfl (l' := #[.val (.int p_1), .val (.int (1 : Int32)), .val (.ref ws_TRUE), .unset, .unset, .unset, .unset, .unset]) rfl k) ?_
    show own_Go _ _ _ _ T19 (mkF m 17 #[.val (.int p_1), .val (.int (1 : Int32)), .val (.ref ws_TRUE), .unset, .unset, .unset, .unset, .unset] [])
    refine own_go (fun _ k => XS.iloadN X19.here hx rfl (hb hby at_17) rfl k) ?_
    show own_Go _ _ _ _ T19 (mkF m 18 #[.val (.int p_1), .val (.int (1 : Int32)), .val (.ref ws_TRUE), .unset, .unset, .unset, .unset, .unset] [(.int (1 : Int32))])
    obtain ⟨_, _, ⟨T20, L20, k20, n20⟩, -, X20, ⟨Lc20, hQ20, l20, y20, z20⟩, st20⟩ := Jvm.LawKit.callS X19 hx (y := (⟨"com/example/bytewright/bytewright/value/BooleanValue", "of", "(Z)Lcom/example/bytewright/bytewright/value/BooleanValue;"⟩ : MethodName)) hown (mvT hZ (hw _ (List.mem_of_getElem? (i := 0) rfl))) (mvT hZ (hw _ (List.mem_of_getElem? (i := 1) rfl))) (mvT hZ (hw _ (List.mem_of_getElem? (i := 2) rfl))) (mvT hZ (hw _ (List.mem_of_getElem? (i := 3) rfl))) (by decide) (backOf (W := 0) (own_rm1t l Z a0 hw [] (1 : Int32) ws_TRUE h0 n0 (by omega) (show ¬ ((1 : Int32) = 0) by first | assumption | omega | decide) pr_S_com_example_bytewright_bytewright_value_BooleanValue_TRUE) hZ (hw _ (List.mem_of_getElem? (i := 3) rfl)) (hw _ (List.mem_of_getElem? (i := 2) rfl)) (by decide) (by decide)) (g := (mkF m 18 #[.val (.int p_1), .val (.int (1 : Int32)), .val (.ref ws_TRUE), .unset, .unset, .unset, .unset, .unset] [(.int (1 : Int32))])) rfl (by rw [hml]; rfl) (argsL := [(.int (1 : Int32))]) (rest := []) (lenOf own_pd0 rfl) rfl (by show 2 * 0 + _ ≤ _; exact Nat.le_of_eq rfl) (hb hby at_18) (fun _ _ => ⟨rfl, e19, (by show k19 + _ ≤ _; rw [y19]; decide), (by show n19 + _ ≤ _; rw [z19]; decide)⟩)
    dsimp only [Pt.U, Pt.locs, Pt.cells, Pt.slots] at X20 l20 y20 z20 st20 hQ20
    have y20 : k20 = 0 := own_addeq y20 (congrArg (fun q => q) y19) rfl
    have z20 : n20 = 0 := own_addeq z20 (congrArg (fun q => q) z19) rfl
    obtain ⟨rfl, N20q, e20⟩ := hQ20
    have N20 : Fr n0 L20 := by rw [l20]; exact Fr.app N19 N20q
    refine own_go (fun _ k => st20 _ k) ?_
    show own_Go _ _ _ _ T20 (mkF m 21 #[.val (.int p_1), .val (.int (1 : Int32)), .val (.ref ws_TRUE), .unset, .unset, .unset, .unset, .unset] [(.ref ws_TRUE)])
    refine own_go (fun _ k => XS.astoreN X20.here hx rfl (hb hby at_21) rfl rfl (l' := #[.val (.int p_1), .val (.int (1 : Int32)), .val (.ref ws_TRUE), .val (.ref ws_TRUE), .unset, .unset, .unset, .unset]) rfl k) ?_
    show own_Go _ _ _ _ T20 (mkF m 22 #[.val (.int p_1), .val (.int (1 : Int32)), .val (.ref ws_TRUE), .val (.ref ws_TRUE), .unset, .unset, .unset, .unset] [])
    refine own_go (fun _ k => XS.aloadN X20.here hx rfl (hb hby at_22) rfl rfl k) ?_
    show own_Go _ _ _ _ T20 (mkF m 23 #[.val (.int p_1), .val (.int (1 : Int32)), .val (.ref ws_TRUE), .val (.ref ws_TRUE), .unset, .unset, .unset, .unset] [(.ref ws_TRUE)])
    obtain ⟨cq21, kq21, q21a, q21b, q21c⟩ := isOf hZ e20 pr_E_ws_TRUE
    obtain ⟨_, _, ⟨T21, L21, k21, n21⟩, -, X21, ⟨Lc21, hQ21, l21, y21, z21⟩, st21⟩ := X20.virtualBack hx (y := (⟨"com/example/bytewright/bytewright/value/BooleanValue", "value", "()Z"⟩ : MethodName)) (z := (⟨"com/example/bytewright/bytewright/value/BooleanValue", "value", "()Z"⟩ : MethodName)) hown (mvT hZ (hw _ (List.mem_of_getElem? (i := 6) rfl))) (mvT hZ (hw _ (List.mem_of_getElem? (i := 7) rfl))) (notFace_of_selects (args := #[]) (mvT hZ (hw _ (List.mem_of_getElem? (i := 9) rfl)))) (mvT hZ (hw _ (List.mem_of_getElem? (i := 9) rfl))) (mvT hZ (hw _ (List.mem_of_getElem? (i := 8) rfl))) (by decide) (backOf (W := 0) (own_rm2 l Z a0 hw [] ws_TRUE (1 : Int32) h0 n0 (by omega) (show (1 : Int32) = 0 ∨ (1 : Int32) = 1 by first | assumption | omega | decide) pr_F_ws_TRUE_value) hZ (hw _ (List.mem_of_getElem? (i := 10) rfl)) (hw _ (List.mem_of_getElem? (i := 2) rfl)) (by decide) (by decide)) q21a q21c (g := (mkF m 23 #[.val (.int p_1), .val (.int (1 : Int32)), .val (.ref ws_TRUE), .val (.ref ws_TRUE), .unset, .unset, .unset, .unset] [(.ref ws_TRUE)])) rfl (by rw [hml]; rfl) (Steps.refl _) (argsL := []) (rest := []) (lenOf own_pd1 rfl) rfl (by show 2 * 0 + _ ≤ _; exact Nat.le_of_eq rfl) (hb hby at_23) (fun _ _ => ⟨rfl, e20, (by show k20 + _ ≤ _; rw [y20]; decide), (by show n20 + _ ≤ _; rw [z20]; decide)⟩)
    dsimp only [Pt.U, Pt.locs, Pt.cells, Pt.slots] at X21 l21 y21 z21 st21 hQ21
    have y21 : k21 = 0 := own_addeq y21 (congrArg (fun q => q) y20) rfl
    have z21 : n21 = 0 := own_addeq z21 (congrArg (fun q => q) z20) rfl
    obtain ⟨rfl, N21q, e21⟩ := hQ21
    have N21 : Fr n0 L21 := by rw [l21]; exact Fr.app N20 N21q
    refine own_go (fun _ k => st21.trans k) ?_
    show own_Go _ _ _ _ T21 (mkF m 26 #[.val (.int p_1), .val (.int (1 : Int32)), .val (.ref ws_TRUE), .val (.ref ws_TRUE), .unset, .unset, .unset, .unset] [(.int (1 : Int32))])
    refine own_go (fun _ k => XS.iloadN X21.here hx rfl (hb hby at_26) rfl k) ?_
    show own_Go _ _ _ _ T21 (mkF m 27 #[.val (.int p_1), .val (.int (1 : Int32)), .val (.ref ws_TRUE), .val (.ref ws_TRUE), .unset, .unset, .unset, .unset] [(.int (1 : Int32)), (.int (1 : Int32))])
    have hc22 : (1 : Int32) = (1 : Int32) := by decide
    refine own_go (fun _ k => XS.icmpNo X21.here hx rfl (hb hby at_27) rfl (Jvm.Free.XT.ii_ne_f hc22) k) ?_
    show own_Go _ _ _ _ T21 (mkF m 30 #[.val (.int p_1), .val (.int (1 : Int32)), .val (.ref ws_TRUE), .val (.ref ws_TRUE), .unset, .unset, .unset, .unset] [])
    refine own_go (fun _ k => XS.iconst X21.here hx rfl (hb hby at_30) k) ?_
    show own_Go _ _ _ _ T21 (mkF m 31 #[.val (.int p_1), .val (.int (1 : Int32)), .val (.ref ws_TRUE), .val (.ref ws_TRUE), .unset, .unset, .unset, .unset] [(.int (1 : Int32))])
    refine own_go (fun _ k => XS.goto X21.here hx rfl (pc0 := 31) (pc' := 35) rfl (hb hby at_31) (by decide) (by decide) k) ?_
    show own_Go _ _ _ _ T21 (mkF m 35 #[.val (.int p_1), .val (.int (1 : Int32)), .val (.ref ws_TRUE), .val (.ref ws_TRUE), .unset, .unset, .unset, .unset] [(.int (1 : Int32))])
    refine own_go (fun _ k => XS.istore X21.here hx rfl (hb hby at_35) rfl (l' := #[.val (.int p_1), .val (.int (1 : Int32)), .val (.ref ws_TRUE), .val (.ref ws_TRUE), .val (.int (1 : Int32)), .unset, .unset, .unset]) rfl k) ?_
    show own_Go _ _ _ _ T21 (mkF m 37 #[.val (.int p_1), .val (.int (1 : Int32)), .val (.ref ws_TRUE), .val (.ref ws_TRUE), .val (.int (1 : Int32)), .unset, .unset, .unset] [])
    refine own_go (fun _ k => XS.aloadN X21.here hx rfl (hb hby at_37) rfl rfl k) ?_
    show own_Go _ _ _ _ T21 (mkF m 38 #[.val (.int p_1), .val (.int (1 : Int32)), .val (.ref ws_TRUE), .val (.ref ws_TRUE), .val (.int (1 : Int32)), .unset, .unset, .unset] [(.ref ws_TRUE)])
    obtain ⟨cq23, kq23, q23a, q23b, q23c⟩ := isOf hZ e21 pr_E_ws_TRUE
    obtain ⟨_, _, ⟨T23, L23, k23, n23⟩, -, X23, ⟨Lc23, hQ23, l23, y23, z23⟩, st23⟩ := X21.virtualBack hx (y := (⟨"com/example/bytewright/bytewright/value/BooleanValue", "kind", "()Lcom/example/bytewright/bytewright/value/Value$Kind;"⟩ : MethodName)) (z := (⟨"com/example/bytewright/bytewright/value/BooleanValue", "kind", "()Lcom/example/bytewright/bytewright/value/Value$Kind;"⟩ : MethodName)) hown (mvT hZ (hw _ (List.mem_of_getElem? (i := 13) rfl))) (mvT hZ (hw _ (List.mem_of_getElem? (i := 14) rfl))) (notFace_of_selects (args := #[]) (mvT hZ (hw _ (List.mem_of_getElem? (i := 16) rfl)))) (mvT hZ (hw _ (List.mem_of_getElem? (i := 16) rfl))) (mvT hZ (hw _ (List.mem_of_getElem? (i := 15) rfl))) (by decide) (backOf (W := 0) (own_rm3 l Z a0 hw [] ws_TRUE ws_BOOLEAN h0 n0 (by omega) pr_S_com_example_bytewright_bytewright_value_Value_Kind_BOOLEAN) hZ (hw _ (List.mem_of_getElem? (i := 17) rfl)) (hw _ (List.mem_of_getElem? (i := 2) rfl)) (by decide) (by decide)) q23a q23c (g := (mkF m 38 #[.val (.int p_1), .val (.int (1 : Int32)), .val (.ref ws_TRUE), .val (.ref ws_TRUE), .val (.int (1 : Int32)), .unset, .unset, .unset] [(.ref ws_TRUE)])) rfl (by rw [hml]; rfl) (Steps.refl _) (argsL := []) (rest := []) (lenOf own_pd2 rfl) rfl (by show 2 * 0 + _ ≤ _; exact Nat.le_of_eq rfl) (hb hby at_38) (fun _ _ => ⟨rfl, e21, (by show k21 + _ ≤ _; rw [y21]; decide), (by show n21 + _ ≤ _; rw [z21]; decide)⟩)
    dsimp only [Pt.U, Pt.locs, Pt.cells, Pt.slots] at X23 l23 y23 z23 st23 hQ23
    have y23 : k23 = 0 := own_addeq y23 (congrArg (fun q => q) y21) rfl
    have z23 : n23 = 0 := own_addeq z23 (congrArg (fun q => q) z21) rfl
    obtain ⟨rfl, N23q, e23⟩ := hQ23
    have N23 : Fr n0 L23 := by rw [l23]; exact Fr.app N21 N23q
    refine own_go (fun _ k => st23.trans k) ?_
    show own_Go _ _ _ _ T23 (mkF m 41 #[.val (.int p_1), .val (.int (1 : Int32)), .val (.ref ws_TRUE), .val (.ref ws_TRUE), .val (.int (1 : Int32)), .unset, .unset, .unset] [(.ref ws_BOOLEAN)])
    obtain ⟨T24, X24, e24, st24⟩ := getS2 X23 hx hZ hown (host := "") (Or.inl (hw _ (List.mem_of_getElem? (i := 21) rfl))) Via.refl e23 pr_S_com_example_bytewright_bytewright_value_Value_Kind_BOOLEAN (g := (mkF m 41 #[.val (.int p_1), .val (.int (1 : Int32)), .val (.ref ws_TRUE), .val (.ref ws_TRUE), .val (.int (1 : Int32)), .unset, .unset, .unset] [(.ref ws_BOOLEAN)])) rfl (hb hby at_41)
    refine own_go (fun _ k => st24 _ k) ?_
    show own_Go _ _ _ _ T24 (mkF m 44 #[.val (.int p_1), .val (.int (1 : Int32)), .val (.ref ws_TRUE), .val (.ref ws_TRUE), .val (.int (1 : Int32)), .unset, .unset, .unset] [(.ref ws_BOOLEAN), (.ref ws_BOOLEAN)])
    refine own_go (fun _ k => Jvm.RoadKit.acmp (g := (mkF m 44 #[.val (.int p_1), .val (.int (1 : Int32)), .val (.ref ws_TRUE), .val (.ref ws_TRUE), .val (.int (1 : Int32)), .unset, .unset, .unset] [(.ref ws_BOOLEAN), (.ref ws_BOOLEAN)])) X24 hx rfl rfl rfl (pc0 := 44) (pc' := 47) (same := true) rfl (hb hby at_44) rfl (decide_eq_true rfl) (by decide) (by decide) k) ?_
    show own_Go _ _ _ _ T24 (mkF m 47 #[.val (.int p_1), .val (.int (1 : Int32)), .val (.ref ws_TRUE), .val (.ref ws_TRUE), .val (.int (1 : Int32)), .unset, .unset, .unset] [])
    refine own_go (fun _ k => XS.iconst X24.here hx rfl (hb hby at_47) k) ?_
    show own_Go _ _ _ _ T24 (mkF m 48 #[.val (.int p_1), .val (.int (1 : Int32)), .val (.ref ws_TRUE), .val (.ref ws_TRUE), .val (.int (1 : Int32)), .unset, .unset, .unset] [(.int (1 : Int32))])
    refine own_go (fun _ k => XS.goto X24.here hx rfl (pc0 := 48) (pc' := 52) rfl (hb hby at_48) (by decide) (by decide) k) ?_
    show own_Go _ _ _ _ T24 (mkF m 52 #[.val (.int p_1), .val (.int (1 : Int32)), .val (.ref ws_TRUE), .val (.ref ws_TRUE), .val (.int (1 : Int32)), .unset, .unset, .unset] [(.int (1 : Int32))])
    refine own_go (fun _ k => XS.istore X24.here hx rfl (hb hby at_52) rfl (l' := #[.val (.int p_1), .val (.int (1 : Int32)), .val (.ref ws_TRUE), .val (.ref ws_TRUE), .val (.int (1 : Int32)), .val (.int (1 : Int32)), .unset, .unset]) rfl k) ?_
    show own_Go _ _ _ _ T24 (mkF m 54 #[.val (.int p_1), .val (.int (1 : Int32)), .val (.ref ws_TRUE), .val (.ref ws_TRUE), .val (.int (1 : Int32)), .val (.int (1 : Int32)), .unset, .unset] [])
    refine own_go (fun _ k => XS.iloadN X24.here hx rfl (hb hby at_54) rfl k) ?_
    show own_Go _ _ _ _ T24 (mkF m 55 #[.val (.int p_1), .val (.int (1 : Int32)), .val (.ref ws_TRUE), .val (.ref ws_TRUE), .val (.int (1 : Int32)), .val (.int (1 : Int32)), .unset, .unset] [(.int (1 : Int32))])
    have hc25 : ¬ ((1 : Int32) = 0) := by decide
    refine own_go (fun _ k => XS.ifNo X24.here hx rfl (hb hby at_55) rfl (Jvm.Free.XT.i0_eq_f hc25) k) ?_
    show own_Go _ _ _ _ T24 (mkF m 58 #[.val (.int p_1), .val (.int (1 : Int32)), .val (.ref ws_TRUE), .val (.ref ws_TRUE), .val (.int (1 : Int32)), .val (.int (1 : Int32)), .unset, .unset] [])
    refine own_go (fun _ k => XS.aloadN X24.here hx rfl (hb hby at_58) rfl rfl k) ?_
    show own_Go _ _ _ _ T24 (mkF m 59 #[.val (.int p_1), .val (.int (1 : Int32)), .val (.ref ws_TRUE), .val (.ref ws_TRUE), .val (.int (1 : Int32)), .val (.int (1 : Int32)), .unset, .unset] [(.ref ws_TRUE)])
    obtain ⟨T26, X26, e26, st26⟩ := getS2 X24 hx hZ hown (host := "") (Or.inl (hw _ (List.mem_of_getElem? (i := 25) rfl))) Via.refl e24 pr_S_com_example_bytewright_bytewright_value_BooleanValue_TRUE (g := (mkF m 59 #[.val (.int p_1), .val (.int (1 : Int32)), .val (.ref ws_TRUE), .val (.ref ws_TRUE), .val (.int (1 : Int32)), .val (.int (1 : Int32)), .unset, .unset] [(.ref ws_TRUE)])) rfl (hb hby at_59)
    refine own_go (fun _ k => st26 _ k) ?_
    show own_Go _ _ _ _ T26 (mkF m 62 #[.val (.int p_1), .val (.int (1 : Int32)), .val (.ref ws_TRUE), .val (.ref ws_TRUE), .val (.int (1 : Int32)), .val (.int (1 : Int32)), .unset, .unset] [(.ref ws_TRUE), (.ref ws_TRUE)])
    refine own_go (fun _ k => Jvm.RoadKit.acmp (g := (mkF m 62 #[.val (.int p_1), .val (.int (1 : Int32)), .val (.ref ws_TRUE), .val (.ref ws_TRUE), .val (.int (1 : Int32)), .val (.int (1 : Int32)), .unset, .unset] [(.ref ws_TRUE), (.ref ws_TRUE)])) X26 hx rfl rfl rfl (pc0 := 62) (pc' := 65) (same := true) rfl (hb hby at_62) rfl (decide_eq_true rfl) (by decide) (by decide) k) ?_
    show own_Go _ _ _ _ T26 (mkF m 65 #[.val (.int p_1), .val (.int (1 : Int32)), .val (.ref ws_TRUE), .val (.ref ws_TRUE), .val (.int (1 : Int32)), .val (.int (1 : Int32)), .unset, .unset] [])
    refine own_go (fun _ k => XS.iconst X26.here hx rfl (hb hby at_65) k) ?_
    show own_Go _ _ _ _ T26 (mkF m 66 #[.val (.int p_1), .val (.int (1 : Int32)), .val (.ref ws_TRUE), .val (.ref ws_TRUE), .val (.int (1 : Int32)), .val (.int (1 : Int32)), .unset, .unset] [(.int (1 : Int32))])
    refine own_go (fun _ k => XS.goto X26.here hx rfl (pc0 := 66) (pc' := 85) rfl (hb hby at_66) (by decide) (by decide) k) ?_
    show own_Go _ _ _ _ T26 (mkF m 85 #[.val (.int p_1), .val (.int (1 : Int32)), .val (.ref ws_TRUE), .val (.ref ws_TRUE), .val (.int (1 : Int32)), .val (.int (1 : Int32)), .unset, .unset] [(.int (1 : Int32))])
    refine own_go (fun _ k => XS.istore X26.here hx rfl (hb hby at_85) rfl (l' := #[.val (.int p_1), .val (.int (1 : Int32)), .val (.ref ws_TRUE), .val (.ref ws_TRUE), .val (.int (1 : Int32)), .val (.int (1 : Int32)), .val (.int (1 : Int32)), .unset]) rfl k) ?_
    show own_Go _ _ _ _ T26 (mkF m 87 #[.val (.int p_1), .val (.int (1 : Int32)), .val (.ref ws_TRUE), .val (.ref ws_TRUE), .val (.int (1 : Int32)), .val (.int (1 : Int32)), .val (.int (1 : Int32)), .unset] [])
    refine own_go (fun _ k => XS.aloadN X26.here hx rfl (hb hby at_87) rfl rfl k) ?_
    show own_Go _ _ _ _ T26 (mkF m 88 #[.val (.int p_1), .val (.int (1 : Int32)), .val (.ref ws_TRUE), .val (.ref ws_TRUE), .val (.int (1 : Int32)), .val (.int (1 : Int32)), .val (.int (1 : Int32)), .unset] [(.ref ws_TRUE)])
    refine own_go (fun _ k => XS.aloadN X26.here hx rfl (hb hby at_88) rfl rfl k) ?_
    show own_Go _ _ _ _ T26 (mkF m 89 #[.val (.int p_1), .val (.int (1 : Int32)), .val (.ref ws_TRUE), .val (.ref ws_TRUE), .val (.int (1 : Int32)), .val (.int (1 : Int32)), .val (.int (1 : Int32)), .unset] [(.ref ws_TRUE), (.ref ws_TRUE)])
    refine own_go (fun _ k => Jvm.RoadKit.acmp (g := (mkF m 89 #[.val (.int p_1), .val (.int (1 : Int32)), .val (.ref ws_TRUE), .val (.ref ws_TRUE), .val (.int (1 : Int32)), .val (.int (1 : Int32)), .val (.int (1 : Int32)), .unset] [(.ref ws_TRUE), (.ref ws_TRUE)])) X26 hx rfl rfl rfl (pc0 := 89) (pc' := 92) (same := true) rfl (hb hby at_89) rfl (decide_eq_true rfl) (by decide) (by decide) k) ?_
    show own_Go _ _ _ _ T26 (mkF m 92 #[.val (.int p_1), .val (.int (1 : Int32)), .val (.ref ws_TRUE), .val (.ref ws_TRUE), .val (.int (1 : Int32)), .val (.int (1 : Int32)), .val (.int (1 : Int32)), .unset] [])
    refine own_go (fun _ k => XS.iconst X26.here hx rfl (hb hby at_92) k) ?_
    show own_Go _ _ _ _ T26 (mkF m 93 #[.val (.int p_1), .val (.int (1 : Int32)), .val (.ref ws_TRUE), .val (.ref ws_TRUE), .val (.int (1 : Int32)), .val (.int (1 : Int32)), .val (.int (1 : Int32)), .unset] [(.int (1 : Int32))])
    refine own_go (fun _ k => XS.goto X26.here hx rfl (pc0 := 93) (pc' := 97) rfl (hb hby at_93) (by decide) (by decide) k) ?_
    show own_Go _ _ _ _ T26 (mkF m 97 #[.val (.int p_1), .val (.int (1 : Int32)), .val (.ref ws_TRUE), .val (.ref ws_TRUE), .val (.int (1 : Int32)), .val (.int (1 : Int32)), .val (.int (1 : Int32)), .unset] [(.int (1 : Int32))])
    refine own_go (fun _ k => XS.istore X26.here hx rfl (hb hby at_97) rfl (l' := #[.val (.int p_1), .val (.int (1 : Int32)), .val (.ref ws_TRUE), .val (.ref ws_TRUE), .val (.int (1 : Int32)), .val (.int (1 : Int32)), .val (.int (1 : Int32)), .val (.int (1 : Int32))]) rfl k) ?_
    show own_Go _ _ _ _ T26 (mkF m 99 #[.val (.int p_1), .val (.int (1 : Int32)), .val (.ref ws_TRUE), .val (.ref ws_TRUE), .val (.int (1 : Int32)), .val (.int (1 : Int32)), .val (.int (1 : Int32)), .val (.int (1 : Int32))] [])
    refine own_go (fun _ k => XS.iload X26.here hx rfl (hb hby at_99) rfl k) ?_
    show own_Go _ _ _ _ T26 (mkF m 101 #[.val (.int p_1), .val (.int (1 : Int32)), .val (.ref ws_TRUE), .val (.ref ws_TRUE), .val (.int (1 : Int32)), .val (.int (1 : Int32)), .val (.int (1 : Int32)), .val (.int (1 : Int32))] [(.int (1 : Int32))])
    have hc27 : ¬ ((1 : Int32) = 0) := by decide
    refine own_go (fun _ k => XS.ifNo X26.here hx rfl (hb hby at_101) rfl (Jvm.Free.XT.i0_eq_f hc27) k) ?_
    show own_Go _ _ _ _ T26 (mkF m 104 #[.val (.int p_1), .val (.int (1 : Int32)), .val (.ref ws_TRUE), .val (.ref ws_TRUE), .val (.int (1 : Int32)), .val (.int (1 : Int32)), .val (.int (1 : Int32)), .val (.int (1 : Int32))] [])
    refine own_go (fun _ k => XS.iload X26.here hx rfl (hb hby at_104) rfl k) ?_
    show own_Go _ _ _ _ T26 (mkF m 106 #[.val (.int p_1), .val (.int (1 : Int32)), .val (.ref ws_TRUE), .val (.ref ws_TRUE), .val (.int (1 : Int32)), .val (.int (1 : Int32)), .val (.int (1 : Int32)), .val (.int (1 : Int32))] [(.int (1 : Int32))])
    have hc28 : ¬ ((1 : Int32) = 0) := by decide
    refine own_go (fun _ k => XS.ifNo X26.here hx rfl (hb hby at_106) rfl (Jvm.Free.XT.i0_eq_f hc28) k) ?_
    show own_Go _ _ _ _ T26 (mkF m 109 #[.val (.int p_1), .val (.int (1 : Int32)), .val (.ref ws_TRUE), .val (.ref ws_TRUE), .val (.int (1 : Int32)), .val (.int (1 : Int32)), .val (.int (1 : Int32)), .val (.int (1 : Int32))] [])
    refine own_go (fun _ k => XS.iload X26.here hx rfl (hb hby at_109) rfl k) ?_
    show own_Go _ _ _ _ T26 (mkF m 111 #[.val (.int p_1), .val (.int (1 : Int32)), .val (.ref ws_TRUE), .val (.ref ws_TRUE), .val (.int (1 : Int32)), .val (.int (1 : Int32)), .val (.int (1 : Int32)), .val (.int (1 : Int32))] [(.int (1 : Int32))])
    have hc29 : ¬ ((1 : Int32) = 0) := by decide
    refine own_go (fun _ k => XS.ifNo X26.here hx rfl (hb hby at_111) rfl (Jvm.Free.XT.i0_eq_f hc29) k) ?_
    show own_Go _ _ _ _ T26 (mkF m 114 #[.val (.int p_1), .val (.int (1 : Int32)), .val (.ref ws_TRUE), .val (.ref ws_TRUE), .val (.int (1 : Int32)), .val (.int (1 : Int32)), .val (.int (1 : Int32)), .val (.int (1 : Int32))] [])
    refine own_go (fun _ k => XS.iload X26.here hx rfl (hb hby at_114) rfl k) ?_
    show own_Go _ _ _ _ T26 (mkF m 116 #[.val (.int p_1), .val (.int (1 : Int32)), .val (.ref ws_TRUE), .val (.ref ws_TRUE), .val (.int (1 : Int32)), .val (.int (1 : Int32)), .val (.int (1 : Int32)), .val (.int (1 : Int32))] [(.int (1 : Int32))])
    have hc30 : ¬ ((1 : Int32) = 0) := by decide
    refine own_go (fun _ k => XS.ifNo X26.here hx rfl (hb hby at_116) rfl (Jvm.Free.XT.i0_eq_f hc30) k) ?_
    show own_Go _ _ _ _ T26 (mkF m 119 #[.val (.int p_1), .val (.int (1 : Int32)), .val (.ref ws_TRUE), .val (.ref ws_TRUE), .val (.int (1 : Int32)), .val (.int (1 : Int32)), .val (.int (1 : Int32)), .val (.int (1 : Int32))] [])
    refine own_go (fun _ k => XS.iconst X26.here hx rfl (hb hby at_119) k) ?_
    show own_Go _ _ _ _ T26 (mkF m 120 #[.val (.int p_1), .val (.int (1 : Int32)), .val (.ref ws_TRUE), .val (.ref ws_TRUE), .val (.int (1 : Int32)), .val (.int (1 : Int32)), .val (.int (1 : Int32)), .val (.int (1 : Int32))] [(.int (1 : Int32))])
    refine own_go (fun _ k => XS.goto X26.here hx rfl (pc0 := 120) (pc' := 124) rfl (hb hby at_120) (by decide) (by decide) k) ?_
    show own_Go _ _ _ _ T26 (mkF m 124 #[.val (.int p_1), .val (.int (1 : Int32)), .val (.ref ws_TRUE), .val (.ref ws_TRUE), .val (.int (1 : Int32)), .val (.int (1 : Int32)), .val (.int (1 : Int32)), .val (.int (1 : Int32))] [(.int (1 : Int32))])
    obtain ⟨fs, hr, hrun, hended, hW, hsame⟩ := X26.leave (v := some (.int (1 : Int32))) (fun h => by rw [Bd.returns] at h; cases h)
    refine ⟨_, _, retOut X26 hx Bd.returns rfl (Or.inl ⟨rfl, Or.inr (Or.inl rfl), _, rfl⟩) (hb hby at_124) hr, hrun, hended, _, _, rfl, ?_, ⟨_, rfl⟩, hW, hsame.mono (by rw [y23]; decide) (by rw [z23]; decide)⟩
    show own_Q0 Z p_1 ws_TRUE ws_FALSE ws_BOOLEAN h0 n0 _ T26.heap _
    rw [e26]
    exact ⟨rfl, N23⟩
set_option maxRecDepth 65536 in
set_option maxHeartbeats 40000000 in
theorem comes_1 {Post : Tables → Env → Array Value → State → Outcome → State → Prop} (hpost : ∀ tb e args s v u, (limb_1_1.after args s (.returned v) u = true ∧ limb_1_2.after args s (.returned v) u = true ∧ True) → FrameEnd s (.returned v) u (Jvm.fieldLocs frame_1_writes args s ++ Jvm.arrayLocs frame_1_arrays args s ++ Jvm.staticLocs frame_1_statics s) 0 0 → Post tb e args s (.returned v) u) :
    ArmFor flags0 classFile x code maxLocals ret World_1 tables_1 room_1 Calls_1 rest_1 Pre_1 Post := by
  intro l hfl _ _ p e ha hc hk s m args below hf hA hF happ hP
  obtain ⟨hcalls, hrest, hpre⟩ := hP
  obtain ⟨-, -, -, hnamed, -, -, -, hat⟩ := (Spec.applies_iff hf).mp happ
  obtain ⟨hg, hn⟩ := and_e (Cond.before_iff.mp (show (Jvm.Cond.and given_1 narrow_1).before args s = true from hpre))
  obtain ⟨g1, g2⟩ := and_e hg
  obtain ⟨w0, rfl⟩ : ∃ w0 : Value, args = #[w0] := by
    have hs : args.size = 1 := by simpa [Cond.value, given_1] using g1
    obtain ⟨L⟩ := args
    match L, hs with
    | [w0], _ => exact ⟨w0, rfl⟩
  have hw := fun d (hd : d ∈ tables_1) => atoms_spec (ws := Jvm.Cond.code x code maxLocals ret :: tables_1) hat d (List.mem_cons_of_mem _ hd)
  have hfit : Fit s := fun {y c} hc i hi => by
    obtain ⟨ha, rfl⟩ := Array.getElem?_eq_some_iff.mp hc
    have q := List.all_eq_true.mp ((Array.all_eq_true_iff_forall_mem.mp hF) _ (Array.getElem_mem ha)) i (List.mem_range.mpr hi)
    simpa [Array.getElem?_eq_getElem hi] using q
  obtain ⟨i0, ei0⟩ := is_v g2
  obtain rfl : w0 = (.int i0) := Option.some.inj ei0
  obtain ⟨n1, n2⟩ := and_e hn
  obtain ⟨n3, n4⟩ := and_e n2
  obtain ⟨n5, n6⟩ := and_e n4
  obtain ⟨n7, n8⟩ := and_e n6
  obtain ⟨ws_FALSE, ew1, ex1⟩ := own_exa_ref n1
  obtain ⟨ws_BOOLEAN, ew2, ex2⟩ := own_exa_ref n5
  obtain ⟨ws_TRUE, ew3, ex3⟩ := own_exa_ref n7
  have s1 := Sta.start ew1 (Or.inr ⟨(hw _ (List.mem_of_getElem? (i := 2) rfl)), (hw _ (List.mem_of_getElem? (i := 5) rfl))⟩)
  have s2 := Sta.start ew2 (Or.inr ⟨(hw _ (List.mem_of_getElem? (i := 19) rfl)), (hw _ (List.mem_of_getElem? (i := 20) rfl))⟩)
  have s3 := Sta.start ew3 (Or.inr ⟨(hw _ (List.mem_of_getElem? (i := 2) rfl)), (hw _ (List.mem_of_getElem? (i := 24) rfl))⟩)
  have f1 := own_fld_int ew1 n3
  have f3 := own_fld_int ew3 n8
  obtain ⟨n, o, h1, h2, h3, _, L, rfl, ⟨rfl, N⟩, hq⟩ := own_rm0 l s _ hw tables_1 i0 ws_TRUE ws_FALSE ws_BOOLEAN s.heap s.heap.size (Nat.le_refl _) s3 s1 s2 ex3 ex1 f3 f1 p e ha hc hk s m _ below hf ((Spec.applies_iff_loose hf).mp happ).1 ⟨rfl, State.Warmed39.refl s, rfl⟩ trivial
  refine ⟨n, _, h1, h2, h3, hpost _ _ _ _ _ _ ⟨Cond.after_iff.mpr rfl, Cond.after_iff.mpr (eq_i res_at (Term.int_eval (1)) rfl), trivial⟩ ⟨hq.1, hq.2.1, (hq.2.2.sift fun y hy => Or.inr (N y hy)).mono (by decide) (by decide)⟩⟩
theorem main_1_1 : Claimed_1_1 := comes_1 fun _ _ _ _ _ _ h hF => ⟨h.1, hF⟩
theorem main_1_2 : Claimed_1_2 := comes_1 fun _ _ _ _ _ _ h hF => ⟨h.2.1, hF⟩
end Jvm.Pilot.@@N@@
namespace Jvm.Pilot.@@N@@
open Jvm Jvm.ClassFile Sem Op Lib Jvm.Free Jvm.Stand Jvm.Pilot.@@N@@.Jvm.D
/-! MADE BY PROGRAM (witnessworld.py) out of the Statement's table words and the real class files: 14 classes; the members and pool entries that the words name. The judged class is class 1, her method 1. -/
namespace start1
open Jvm.ClassFile
def u (s : String) : CpInfo := .utf8 (stringToUtf16 s)
/-- a pool by its gaps: so many unusable entries, then the entry; so many at the end -/
def gap : Nat → List CpInfo → List CpInfo
  | 0, r => r
  | n + 1, r => .unusable :: gap n r
def poolList (es : List (Nat × CpInfo)) (last : Nat) : List CpInfo := es.foldr (fun e r => gap e.1 (e.2 :: r)) (gap last [])
def pool (es : List (Nat × CpInfo)) (last : Nat) : Array CpInfo := ⟨poolList es last⟩
def fileOf (pool : Array CpInfo) (this : Nat) (attrs : Array Attribute := #[]) (ms : Array MethodInfo := #[]) (fl : Nat := 33) (sup : Nat := 0) (ifs : Array Nat := #[]) (fds : Array FieldInfo := #[]) : ClassFile where
  minorVersion := 0
  majorVersion := 65
  constantPool := pool
  accessFlags := fl
  thisClass := this
  superClass := sup
  interfaces := ifs
  fields := fds
  methods := ms
  attributes := attrs
def plain (name : String) (sup : Option ClassId) : Class where
  name := name
  kind := .ordinary
  loader := none
  accessFlags := 33
  super := sup
  interfaces := #[]
  cf := none
  fields := #[]
  methods := #[]
  instanceTypes := #[]
  staticTypes := #[]
  resolved := #[]
  callSites := []
  init := .initialized
  statics := none
  mirror := none

def pool0 : Array CpInfo := pool [(5, u "<init>"), (0, u "()V"), (1, .class_ 10), (1, u "java/lang/Object")] 113

def k0m0 : Method := { name := "<init>", desc := "()V", sig := { parameters := [], returnType := none }, accessFlags := 1, code := none }
/-- java/lang/Object -/
def k0 : Class := { plain "java/lang/Object" none with
  accessFlags := 33
  interfaces := #[]
  cf := some (fileOf pool0 8 #[] #[{ accessFlags := 1, nameIndex := 5, descriptorIndex := 6, attributes := #[] }] 33 0 #[] #[])
  fields := #[]
  methods := #[k0m0]
  instanceTypes := #[]
  staticTypes := #[]
  resolved := Array.replicate 124 none
  statics := none }

def pool1 : Array CpInfo := pool [(2, .class_ 4), (1, u "java/lang/Object"), (0, u "<init>"), (0, u "()V"), (0, .methodref 8 9), (0, .class_ 10), (0, .nameAndType 11 12), (0, u "com/example/bytewright/bytewright/value/BooleanValue"), (0, u "of"), (0, u "(Z)Lcom/example/bytewright/bytewright/value/BooleanValue;"), (0, .methodref 8 14), (0, .nameAndType 15 16), (0, u "value"), (0, u "()Z"), (0, .methodref 8 18), (0, .nameAndType 19 20), (0, u "kind"), (0, u "()Lcom/example/bytewright/bytewright/value/Value$Kind;"), (0, .fieldref 22 23), (0, .class_ 24), (0, .nameAndType 25 26), (0, u "com/example/bytewright/bytewright/value/Value$Kind"), (0, u "BOOLEAN"), (0, u "Lcom/example/bytewright/bytewright/value/Value$Kind;"), (0, .fieldref 8 28), (0, .nameAndType 29 30), (0, u "TRUE"), (0, u "Lcom/example/bytewright/bytewright/value/BooleanValue;"), (0, .fieldref 8 32), (0, .nameAndType 33 30), (0, u "FALSE"), (0, .class_ 35), (0, u "com/example/bytewright/bytewright/value/BooleanValueOfPinLaw"), (2, u "law"), (0, u "(I)Z")] 7

def k1m0 : Method := { name := "<init>", desc := "()V", sig := { parameters := [], returnType := none }, accessFlags := 2, code := none }
def k1c1 : Code := { maxStack := 2, maxLocals := 8, code := code, exceptionTable := #[], attributes := #[] }
def k1m1 : Method := { name := "law", desc := "(I)Z", sig := { parameters := [.int], returnType := some .boolean }, accessFlags := 9, code := some k1c1 }
/-- com/example/bytewright/bytewright/value/BooleanValueOfPinLaw -/
def k1 : Class := { plain "com/example/bytewright/bytewright/value/BooleanValueOfPinLaw" (some 0) with
  accessFlags := 49
  interfaces := #[]
  cf := some (fileOf pool1 34 #[] #[{ accessFlags := 2, nameIndex := 5, descriptorIndex := 6, attributes := #[] }, { accessFlags := 9, nameIndex := 38, descriptorIndex := 39, attributes := #[] }] 49 2 #[] #[])
  fields := #[]
  methods := #[k1m0, k1m1]
  instanceTypes := #[]
  staticTypes := #[]
  resolved := Array.replicate 47 none
  statics := none }

def pool2 : Array CpInfo := pool [(1, .class_ 2), (0, u "com/example/bytewright/bytewright/value/Value"), (0, .class_ 4), (0, u "java/lang/Object"), (0, u "MAX_DEPTH"), (0, u "I"), (11, .class_ 19), (0, u "com/example/bytewright/bytewright/value/Value$Kind")] 17

/-- com/example/bytewright/bytewright/value/Value -/
def k2 : Class := { plain "com/example/bytewright/bytewright/value/Value" (some 0) with
  accessFlags := 1537
  interfaces := #[]
  cf := some (fileOf pool2 1 #[.nestMembers #[18]] #[] 1537 3 #[] #[{ accessFlags := 25, nameIndex := 5, descriptorIndex := 6, attributes := #[] }])
  fields := #[{ name := "MAX_DEPTH", type := .int, accessFlags := 25, slot := 0, constantValue := 0 }]
  methods := #[]
  instanceTypes := #[]
  staticTypes := #[.int]
  resolved := Array.replicate 37 none
  statics := none }

def pool3 : Array CpInfo := pool [(2, .class_ 4), (1, u "java/lang/Object"), (2, .fieldref 8 9), (0, .class_ 10), (0, .nameAndType 11 12), (0, u "com/example/bytewright/bytewright/value/BooleanValue"), (0, u "value"), (0, u "Z"), (0, .fieldref 8 14), (0, .nameAndType 15 16), (0, u "TRUE"), (0, u "Lcom/example/bytewright/bytewright/value/BooleanValue;"), (0, .fieldref 8 18), (0, .nameAndType 19 16), (0, u "FALSE"), (0, .fieldref 21 22), (0, .class_ 23), (0, .nameAndType 24 25), (0, u "com/example/bytewright/bytewright/value/Value$Kind"), (0, u "BOOLEAN"), (0, u "Lcom/example/bytewright/bytewright/value/Value$Kind;"), (3, .class_ 30), (0, u "com/example/bytewright/bytewright/value/Value"), (2, u "of"), (0, u "(Z)Lcom/example/bytewright/bytewright/value/BooleanValue;"), (1, u "()Z"), (0, u "kind"), (0, u "()Lcom/example/bytewright/bytewright/value/Value$Kind;")] 5

def k3c0 : Code := { maxStack := 1, maxLocals := 1, code := prog_47_method_2_code, exceptionTable := #[], attributes := #[] }
def k3m0 : Method := { name := "of", desc := "(Z)Lcom/example/bytewright/bytewright/value/BooleanValue;", sig := { parameters := [.boolean], returnType := some (.object "com/example/bytewright/bytewright/value/BooleanValue") }, accessFlags := 9, code := some k3c0 }
def k3c1 : Code := { maxStack := 1, maxLocals := 1, code := prog_47_method_3_code, exceptionTable := #[], attributes := #[] }
def k3m1 : Method := { name := "value", desc := "()Z", sig := { parameters := [], returnType := some .boolean }, accessFlags := 1, code := some k3c1 }
def k3c2 : Code := { maxStack := 1, maxLocals := 1, code := prog_47_method_4_code, exceptionTable := #[], attributes := #[] }
def k3m2 : Method := { name := "kind", desc := "()Lcom/example/bytewright/bytewright/value/Value$Kind;", sig := { parameters := [], returnType := some (.object "com/example/bytewright/bytewright/value/Value$Kind") }, accessFlags := 1, code := some k3c2 }
/-- com/example/bytewright/bytewright/value/BooleanValue -/
def k3 : Class := { plain "com/example/bytewright/bytewright/value/BooleanValue" (some 0) with
  accessFlags := 49
  interfaces := #[2]
  cf := some (fileOf pool3 8 #[] #[{ accessFlags := 9, nameIndex := 33, descriptorIndex := 34, attributes := #[] }, { accessFlags := 1, nameIndex := 11, descriptorIndex := 36, attributes := #[] }, { accessFlags := 1, nameIndex := 37, descriptorIndex := 38, attributes := #[] }] 49 2 #[29] #[{ accessFlags := 25, nameIndex := 15, descriptorIndex := 16, attributes := #[] }, { accessFlags := 25, nameIndex := 19, descriptorIndex := 16, attributes := #[] }, { accessFlags := 18, nameIndex := 11, descriptorIndex := 12, attributes := #[] }])
  fields := #[{ name := "TRUE", type := (.object "com/example/bytewright/bytewright/value/BooleanValue"), accessFlags := 25, slot := 0, constantValue := 0 }, { name := "FALSE", type := (.object "com/example/bytewright/bytewright/value/BooleanValue"), accessFlags := 25, slot := 1, constantValue := 0 }, { name := "value", type := .boolean, accessFlags := 18, slot := 0, constantValue := 0 }]
  methods := #[k3m0, k3m1, k3m2]
  instanceTypes := #[.boolean]
  staticTypes := #[(.object "com/example/bytewright/bytewright/value/BooleanValue"), (.object "com/example/bytewright/bytewright/value/BooleanValue")]
  resolved := Array.replicate 44 none
  statics := some 0 }

def pool4 : Array CpInfo := pool [(1, .class_ 2), (0, u "java/lang/constant/Constable"), (0, .class_ 4), (0, u "java/lang/Object")] 6

/-- java/lang/constant/Constable -/
def k4 : Class := { plain "java/lang/constant/Constable" (some 0) with
  accessFlags := 1537
  interfaces := #[]
  cf := some (fileOf pool4 1 #[] #[] 1537 3 #[] #[])
  fields := #[]
  methods := #[]
  instanceTypes := #[]
  staticTypes := #[]
  resolved := Array.replicate 11 none
  statics := none }

def pool5 : Array CpInfo := pool [(1, .class_ 2), (0, u "java/lang/Comparable"), (0, .class_ 4), (0, u "java/lang/Object")] 7

/-- java/lang/Comparable -/
def k5 : Class := { plain "java/lang/Comparable" (some 0) with
  accessFlags := 1537
  interfaces := #[]
  cf := some (fileOf pool5 1 #[] #[] 1537 3 #[] #[])
  fields := #[]
  methods := #[]
  instanceTypes := #[]
  staticTypes := #[]
  resolved := Array.replicate 12 none
  statics := none }

def pool6 : Array CpInfo := pool [(1, .class_ 2), (0, u "java/io/Serializable"), (0, .class_ 4), (0, u "java/lang/Object")] 2

/-- java/io/Serializable -/
def k6 : Class := { plain "java/io/Serializable" (some 0) with
  accessFlags := 1537
  interfaces := #[]
  cf := some (fileOf pool6 1 #[] #[] 1537 3 #[] #[])
  fields := #[]
  methods := #[]
  instanceTypes := #[]
  staticTypes := #[]
  resolved := Array.replicate 7 none
  statics := none }

def pool7 : Array CpInfo := pool [(2, .class_ 4), (1, u "java/lang/Enum"), (0, u "name"), (0, u "Ljava/lang/String;"), (2, u "ordinal"), (0, u "I"), (1, .class_ 14), (1, u "java/lang/Object"), (4, u "hash"), (86, .class_ 108), (1, u "java/lang/Enum$EnumDesc"), (2, .class_ 112), (0, u "java/lang/constant/Constable"), (0, .class_ 114), (0, u "java/lang/Comparable"), (0, .class_ 116), (0, u "java/io/Serializable")] 87

/-- java/lang/Enum -/
def k7 : Class := { plain "java/lang/Enum" (some 0) with
  accessFlags := 1057
  interfaces := #[4, 5, 6]
  cf := some (fileOf pool7 2 #[.nestMembers #[106]] #[] 1057 12 #[111, 113, 115] #[{ accessFlags := 18, nameIndex := 5, descriptorIndex := 6, attributes := #[] }, { accessFlags := 18, nameIndex := 9, descriptorIndex := 10, attributes := #[] }, { accessFlags := 2, nameIndex := 19, descriptorIndex := 10, attributes := #[] }])
  fields := #[{ name := "name", type := (.object "java/lang/String"), accessFlags := 18, slot := 0, constantValue := 0 }, { name := "ordinal", type := .int, accessFlags := 18, slot := 1, constantValue := 0 }, { name := "hash", type := .int, accessFlags := 2, slot := 2, constantValue := 0 }]
  methods := #[]
  instanceTypes := #[(.object "java/lang/String"), .int, .int]
  staticTypes := #[]
  resolved := Array.replicate 204 none
  statics := none }

def pool8 : Array CpInfo := pool [(1, .class_ 2), (0, u "com/example/bytewright/bytewright/value/Value$Kind"), (2, u "BOOLEAN"), (0, u "Lcom/example/bytewright/bytewright/value/Value$Kind;"), (2, u "INTEGER"), (2, u "DOUBLE"), (2, u "STRING"), (2, u "BYTES"), (2, u "ARRAY"), (2, u "OBJECT"), (2, u "$VALUES"), (0, u "[Lcom/example/bytewright/bytewright/value/Value$Kind;"), (6, .class_ 37), (1, u "java/lang/Enum"), (30, .class_ 69), (0, u "com/example/bytewright/bytewright/value/Value")] 2

/-- com/example/bytewright/bytewright/value/Value$Kind -/
def k8 : Class := { plain "com/example/bytewright/bytewright/value/Value$Kind" (some 7) with
  accessFlags := 16433
  interfaces := #[]
  cf := some (fileOf pool8 1 #[.nestHost 68] #[] 16433 35 #[] #[{ accessFlags := 16409, nameIndex := 5, descriptorIndex := 6, attributes := #[] }, { accessFlags := 16409, nameIndex := 9, descriptorIndex := 6, attributes := #[] }, { accessFlags := 16409, nameIndex := 12, descriptorIndex := 6, attributes := #[] }, { accessFlags := 16409, nameIndex := 15, descriptorIndex := 6, attributes := #[] }, { accessFlags := 16409, nameIndex := 18, descriptorIndex := 6, attributes := #[] }, { accessFlags := 16409, nameIndex := 21, descriptorIndex := 6, attributes := #[] }, { accessFlags := 16409, nameIndex := 24, descriptorIndex := 6, attributes := #[] }, { accessFlags := 4122, nameIndex := 27, descriptorIndex := 28, attributes := #[] }])
  fields := #[{ name := "BOOLEAN", type := (.object "com/example/bytewright/bytewright/value/Value$Kind"), accessFlags := 16409, slot := 0, constantValue := 0 }, { name := "INTEGER", type := (.object "com/example/bytewright/bytewright/value/Value$Kind"), accessFlags := 16409, slot := 1, constantValue := 0 }, { name := "DOUBLE", type := (.object "com/example/bytewright/bytewright/value/Value$Kind"), accessFlags := 16409, slot := 2, constantValue := 0 }, { name := "STRING", type := (.object "com/example/bytewright/bytewright/value/Value$Kind"), accessFlags := 16409, slot := 3, constantValue := 0 }, { name := "BYTES", type := (.object "com/example/bytewright/bytewright/value/Value$Kind"), accessFlags := 16409, slot := 4, constantValue := 0 }, { name := "ARRAY", type := (.object "com/example/bytewright/bytewright/value/Value$Kind"), accessFlags := 16409, slot := 5, constantValue := 0 }, { name := "OBJECT", type := (.object "com/example/bytewright/bytewright/value/Value$Kind"), accessFlags := 16409, slot := 6, constantValue := 0 }, { name := "$VALUES", type := (.array (.object "com/example/bytewright/bytewright/value/Value$Kind")), accessFlags := 4122, slot := 7, constantValue := 0 }]
  methods := #[]
  instanceTypes := #[(.object "java/lang/String"), .int, .int]
  staticTypes := #[(.object "com/example/bytewright/bytewright/value/Value$Kind"), (.object "com/example/bytewright/bytewright/value/Value$Kind"), (.object "com/example/bytewright/bytewright/value/Value$Kind"), (.object "com/example/bytewright/bytewright/value/Value$Kind"), (.object "com/example/bytewright/bytewright/value/Value$Kind"), (.object "com/example/bytewright/bytewright/value/Value$Kind"), (.object "com/example/bytewright/bytewright/value/Value$Kind"), (.array (.object "com/example/bytewright/bytewright/value/Value$Kind"))]
  resolved := Array.replicate 72 none
  statics := some 1 }

def pool9 : Array CpInfo := pool [(1, u "java/lang/Cloneable"), (0, .class_ 1), (0, u "java/lang/Object"), (0, .class_ 3)] 3

/-- java/lang/Cloneable -/
def k9 : Class := { plain "java/lang/Cloneable" (some 0) with
  accessFlags := 1537
  interfaces := #[]
  cf := some (fileOf pool9 2 #[] #[] 1537 4 #[] #[])
  fields := #[]
  methods := #[]
  instanceTypes := #[]
  staticTypes := #[]
  resolved := Array.replicate 8 none
  statics := none }

/-- the primitive byte -/
def k10 : Class := { plain "byte" none with kind := .primitive 'B', accessFlags := 0x411 }
/-- [B -/
def k11 : Class := { plain "[B" (some 0) with kind := .array 10 .byte, interfaces := #[9, 6], accessFlags := 1041 }

/-- the primitive int -/
def k12 : Class := { plain "int" none with kind := .primitive 'I', accessFlags := 0x411 }
/-- [I -/
def k13 : Class := { plain "[I" (some 0) with kind := .array 12 .int, interfaces := #[9, 6], accessFlags := 1041 }

def heap : Heap := #[{ cls := 3, slots := #[.ref 3, .ref 2], vm := .statics 3 },
  { cls := 8, slots := #[.ref 4, .null, .null, .null, .null, .null, .null, .null], vm := .statics 8 },
  { cls := 3, slots := #[.int 0], vm := .none },
  { cls := 3, slots := #[.int 1], vm := .none },
  { cls := 8, slots := #[.null, .int 0, .int 0], vm := .none }]
def classes : Array Class := #[k0, k1, k2, k3, k4, k5, k6, k7, k8, k9, k10, k11, k12, k13]
def interned : List (Array UInt16 × Addr) := []
def slotsUsed : Nat := 15
def theMethod : MethodId := ⟨1, 1⟩
def args0 : Array Value := #[.int 1]
def aboutOver (below : List Frame) : State where
  vm := { classes := classes, interned := interned.toArray }
  heap := heap
  slotsUsed := slotsUsed
  threads := #[{ frames := .invoking theMethod args0 :: below }]
def below0 : List Frame := [.native { method := ⟨0, 0⟩, args := #[] }]
def about1 : State := aboutOver below0
def p0 : Program := .bare "" "" ""
def e0 : Env := launch0.env 0 0 0
theorem w_frames : about1.frames = Frame.invoking theMethod args0 :: below0 := rfl
set_option maxRecDepth 65536 in
theorem w_args : argsFit about1.vm theMethod args0 = true := by decide +kernel
set_option maxRecDepth 65536 in
theorem w_heap : heapFits about1 = true := by decide +kernel
set_option maxRecDepth 65536 in
theorem w_runnable : about1.curStatus? = some .runnable := by decide +kernel
set_option maxRecDepth 65536 in
theorem w_alone : about1.alone = true := by decide +kernel
set_option maxRecDepth 65536 in
theorem w_named : about1.methodNamed? x = some theMethod := by decide +kernel
set_option maxRecDepth 65536 in
theorem w_hears : about1.hears theMethod below0 = true := by decide +kernel
set_option maxRecDepth 65536 in
theorem w_ripe : about1.ripe theMethod args0 below0 = true := by decide +kernel
theorem w_running : about1.status = .running := rfl
set_option maxRecDepth 65536 in
theorem w_room : about1.hasRoom e0.platform room_1 = true :=
  launch0.hasRoom_least _ room_1 (by decide +kernel) (by decide +kernel) (by decide +kernel) (by decide +kernel) (by decide +kernel) (by decide +kernel)
theorem allAtoms_all (ts : List Jvm.Cond) (a : Array Jvm.Value) (st : Jvm.State) : (allAtoms ts).before a st = ts.all (fun c => c.before a st) := by
  induction ts with
  | nil => rfl
  | cons c t ih =>
    show (Jvm.Cond.and c (allAtoms t)).before a st = _
    rw [Jvm.Cond.before_and, ih, List.all_cons]
def words1 : List Jvm.Cond := Jvm.Cond.code x code maxLocals ret :: tables_1
/-- a 'code' word, met by the world's own term for the bytes: nothing is compared byte by byte -/
theorem code_word {y : MethodName} {bytes : ByteArray} {mx : Nat} {rt : Option FieldType} {a : Array Value} {s : State} {m : MethodId} {meth : Method} {c : Code} (h1 : s.methodNamed? y = some m) (h2 : s.vm.method? m = some meth) (h3 : meth.code = some c) (h4 : c.code = bytes)
    (h5 : (c.maxLocals == mx && c.exceptionTable.isEmpty && decide (c.maxStack ≤ mostOperands) && decide (meth.sig.returnType = rt) && !meth.locks && decide (parseMethodDescriptor y.desc = some meth.sig)) = true) : (Jvm.Cond.code y bytes mx rt).before a s = true := by
  simp only [Bool.and_eq_true, beq_iff_eq, Bool.not_eq_true', decide_eq_true_eq] at h5
  obtain ⟨⟨⟨⟨⟨g1, g2⟩, g3⟩, g4⟩, g5⟩, g6⟩ := h5
  simp [Cond.before, Cond.holds, Cond.value, h1, h2, h3, h4, g1, g2, g3, g4, g5, g6]
def isCode : Jvm.Cond → Bool
  | .code _ _ _ _ => true
  | _ => false
theorem all_split {L : List Jvm.Cond} {P : Jvm.Cond → Bool} (h1 : L.all (fun c => isCode c || P c) = true) (h2 : ∀ c ∈ L.filter isCode, P c = true) : L.all P = true := by
  refine List.all_eq_true.mpr fun c hc => ?_
  have h := List.all_eq_true.mp h1 c hc
  rcases Bool.eq_false_or_eq_true (isCode c) with hi | hi
  · exact h2 c (List.mem_filter.mpr ⟨hc, hi⟩)
  · simpa [hi] using h
set_option maxRecDepth 65536 in
theorem w_c0 : (Jvm.Cond.code x code maxLocals ret).before args0 about1 = true := code_word (m := ⟨1, 1⟩) (meth := k1m1) (c := k1c1) (by decide +kernel) rfl rfl rfl (by decide +kernel)
set_option maxRecDepth 65536 in
theorem w_c1 : (Jvm.Cond.code ({ cls := "com/example/bytewright/bytewright/value/BooleanValue", name := "of", desc := "(Z)Lcom/example/bytewright/bytewright/value/BooleanValue;" } : Jvm.MethodName) prog_47_method_2_code (1 : Nat) (Option.some (Jvm.ClassFile.FieldType.object "com/example/bytewright/bytewright/value/BooleanValue"))).before args0 about1 = true := code_word (m := ⟨3, 0⟩) (meth := k3m0) (c := k3c0) (by decide +kernel) rfl rfl rfl (by decide +kernel)
set_option maxRecDepth 65536 in
theorem w_c2 : (Jvm.Cond.code ({ cls := "com/example/bytewright/bytewright/value/BooleanValue", name := "value", desc := "()Z" } : Jvm.MethodName) prog_47_method_3_code (1 : Nat) (Option.some Jvm.ClassFile.FieldType.boolean)).before args0 about1 = true := code_word (m := ⟨3, 1⟩) (meth := k3m1) (c := k3c1) (by decide +kernel) rfl rfl rfl (by decide +kernel)
set_option maxRecDepth 65536 in
theorem w_c3 : (Jvm.Cond.code ({ cls := "com/example/bytewright/bytewright/value/BooleanValue", name := "kind", desc := "()Lcom/example/bytewright/bytewright/value/Value$Kind;" } : Jvm.MethodName) prog_47_method_4_code (1 : Nat) (Option.some (Jvm.ClassFile.FieldType.object "com/example/bytewright/bytewright/value/Value$Kind"))).before args0 about1 = true := code_word (m := ⟨3, 2⟩) (meth := k3m2) (c := k3c2) (by decide +kernel) rfl rfl rfl (by decide +kernel)
def codes1 : List Jvm.Cond := [Jvm.Cond.code x code maxLocals ret, Jvm.Cond.code ({ cls := "com/example/bytewright/bytewright/value/BooleanValue", name := "of", desc := "(Z)Lcom/example/bytewright/bytewright/value/BooleanValue;" } : Jvm.MethodName) prog_47_method_2_code (1 : Nat) (Option.some (Jvm.ClassFile.FieldType.object "com/example/bytewright/bytewright/value/BooleanValue")), Jvm.Cond.code ({ cls := "com/example/bytewright/bytewright/value/BooleanValue", name := "value", desc := "()Z" } : Jvm.MethodName) prog_47_method_3_code (1 : Nat) (Option.some Jvm.ClassFile.FieldType.boolean), Jvm.Cond.code ({ cls := "com/example/bytewright/bytewright/value/BooleanValue", name := "kind", desc := "()Lcom/example/bytewright/bytewright/value/Value$Kind;" } : Jvm.MethodName) prog_47_method_4_code (1 : Nat) (Option.some (Jvm.ClassFile.FieldType.object "com/example/bytewright/bytewright/value/Value$Kind"))]
set_option maxRecDepth 65536 in
theorem codes_eq : words1.filter isCode = codes1 := rfl
theorem w_codes : ∀ c ∈ words1.filter isCode, c.before args0 about1 = true := by
  rw [codes_eq]
  intro c hc
  simp only [codes1, List.mem_cons, List.not_mem_nil, or_false] at hc
  rcases hc with rfl | rfl | rfl | rfl
  · exact w_c0
  · exact w_c1
  · exact w_c2
  · exact w_c3
set_option maxRecDepth 65536 in
theorem w_t1 : (words1.take 24).all (fun c => isCode c || c.before args0 about1) = true := by decide +kernel
set_option maxRecDepth 65536 in
theorem w_t2 : (words1.drop 24).all (fun c => isCode c || c.before args0 about1) = true := by decide +kernel
theorem w_tables : (allAtoms (Jvm.Cond.code x code maxLocals ret :: tables_1)).before args0 about1 = true := by
  rw [allAtoms_all]
  show words1.all (fun c => c.before args0 about1) = true
  refine all_split ?_ w_codes
  rw [← List.take_append_drop 24 words1, List.all_append, w_t1, w_t2]
  rfl
set_option maxRecDepth 65536 in
theorem w_case : (Jvm.Cond.and given_1 narrow_1).before args0 about1 = true := by decide +kernel
theorem w_applies : (headSpec (Jvm.Cond.code x code maxLocals ret :: tables_1) room_1).applies x e0.platform about1 = true :=
  (Spec.applies_iff w_frames).mpr ⟨w_running, w_runnable, w_alone, w_named, w_hears, w_ripe, w_room, w_tables⟩
theorem atStart : AtStart classFile x code maxLocals ret World_1 tables_1 room_1 Calls_1 rest_1 Pre_1 launch0 p0 e0 about1 theMethod args0 below0 :=
  ⟨lists_1, trivial, launch0.admits_env _ _ _, launch0.least_env, fairChoices_fair.cas, fairChoices_fair.clock, w_frames, w_args, w_heap, w_applies, trivial, trivial, w_case⟩
end start1
theorem witness_1 : WitnessClaimed_1 := ⟨start1.p0, start1.e0, start1.about1, start1.theMethod, start1.args0, start1.below0, start1.atStart⟩
end Jvm.Pilot.@@N@@
