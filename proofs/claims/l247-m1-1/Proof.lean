import JvmDerived
import JvmDerived.Pilot.@@N@@Statement
import JvmDerived.Pilot.@@N@@Code
set_option linter.unusedVariables false
set_option linter.unusedSimpArgs false
namespace Jvm.Pilot.@@N@@
open Jvm Jvm.ClassFile Sem Op Lib Jvm.Free Jvm.Stand Jvm.LawKit Jvm.RoadKit Bundle Jvm.Pilot.@@N@@.Jvm.D
def own_Go (tb : Tables) (e : Env) (below : List Frame) (P : State → Outcome → Prop) (T : State) (g : JFrame) : Prop := ∃ t o, Steps tb e below (T.setTop g) t ∧ P t o
theorem own_go {tb : Tables} {e : Env} {below : List Frame} {P : State → Outcome → Prop} {T T' : State} {g g' : JFrame} (k : ∀ target, Steps tb e below (T'.setTop g') target → Steps tb e below (T.setTop g) target) (h : own_Go tb e below P T' g') : own_Go tb e below P T g := by
  obtain ⟨t, o, a, b⟩ := h
  exact ⟨t, o, k t a, b⟩
theorem own_cast {P Q : Prop} (h : P = Q) (p : P) : Q := h ▸ p
def own_upd (f : Nat → Value) (k : Nat) (v : Value) : Nat → Value := fun i => if i = k then v else f i
/-- an array of length z at a, its element i being f i -/
def own_AV (Z : State) (h : Heap) (a : Addr) (ty : FieldType) (z : Int32) (f : Nat → Value) : Prop := ¬ z < 0 ∧ ∃ c : Cell, Arr Z h a c ty ∧ c.slots.size = z.toNatClampNeg ∧ ∀ i, i < c.slots.size → c.slots[i]? = some (f i)
section
variable {Z : State} {h h' : Heap} {a b : Addr} {ty : FieldType} {z j : Int32} {f : Nat → Value} {v w : Value} {sl k : Nat} {ws : List Addr} {cA : ClassId}
theorem own_AV.lt (F : own_AV Z h a ty z f) : a < h.size := by obtain ⟨_, c, A, -⟩ := F; exact A.lt
theorem own_AV.ext (F : own_AV Z h a ty z f) (E : Ext h h') : own_AV Z h' a ty z f := by obtain ⟨q, c, A, r⟩ := F; exact ⟨q, c, A.ext E, r⟩
theorem own_AV.other (F : own_AV Z h b ty z f) (W : Wr h h' a sl v) (q : b ≠ a) : own_AV Z h' b ty z f := by obtain ⟨q1, c, A, r⟩ := F; exact ⟨q1, c, A.other W q, r⟩
theorem own_AV.keep (F : own_AV Z h a ty z f) (K : Keep h h' ws) (q : a ∉ ws) : own_AV Z h' a ty z f := by obtain ⟨q1, c, A, r⟩ := F; exact ⟨q1, c, ⟨K.2.1 a c A.1 q, A.2⟩, r⟩
theorem own_AV.new (A : Arr Z h a (newA cA ty z) ty) (q : ¬ z < 0) : own_AV Z h a ty z (fun _ => defaultValue ty) :=
  ⟨q, _, A, sz_new _ _ _, fun i hi => by
    rw [sz_new] at hi
    simp [newA, hi]⟩
theorem own_AV.set (F : own_AV Z h a ty z f) (W : Wr h h' a j.toNatClampNeg v) (hk : j.toNatClampNeg = k) : own_AV Z h' a ty z (own_upd f k v) := by
  obtain ⟨q, c, A, s, t⟩ := F
  subst hk
  refine ⟨q, _, A.same W, by rw [sz_set]; exact s, fun i hi => ?_⟩
  rw [sz_set] at hi
  by_cases e : i = j.toNatClampNeg
  · subst e; simp [own_upd, Cell.setSlot, hi]
  · simp only [own_upd, if_neg e, Cell.setSlot]
    rw [Array.getElem?_setIfInBounds_ne (Ne.symm e)]; exact t i hi
theorem own_at {c : Cell} (t : ∀ i, i < c.slots.size → c.slots[i]? = some (f i)) (s : c.slots.size = z.toNatClampNeg) (hin : ¬ (j < 0 ∨ c.slots.size ≤ j.toNatClampNeg)) (hk : j.toNatClampNeg = k) (hv : f k = v) : c.slots[j.toNatClampNeg]? = some v := by
  rw [t _ (Nat.lt_of_not_le fun q => hin (Or.inr q)), hk, hv]
theorem own_sta_keep {C n d : String} (F : Sta Z h C n d w) (K : Keep h h' ws) (q : ∀ x ∈ ws, ∀ c : Cell, h[x]? = some c → c.vm.isStatics = false) : Sta Z h' C n d w := by
  obtain ⟨cf, i, k, f, st, cell, h1, h2, h3, h4, h5, h6, h7⟩ := F
  exact ⟨cf, i, k, f, st, cell, h1, h2, h3, h4, K.2.1 st cell h5 (fun m => by rw [q st m cell h5] at h6; cases h6), h6, h7⟩
theorem own_exa_plain {C : String} (F : Exa Z h a C) : ∀ c : Cell, h[a]? = some c → c.vm.isStatics = false := fun c hc => by
  obtain ⟨c1, k, h1, -, -, h4, -⟩ := F; cases h1.symm.trans hc; exact h4
theorem own_AV.plain (F : own_AV Z h a ty z f) : ∀ c : Cell, h[a]? = some c → c.vm.isStatics = false := fun c hc => by
  obtain ⟨_, c1, A, -⟩ := F; cases A.1.symm.trans hc; exact A.plain
end
theorem own_narb {x : Int32} (h : x = 0 ∨ x = 1) : nar .boolean x = x := by rcases h with rfl | rfl <;> rfl
theorem own_exa_ref {args : Array Value} {s : State} {t : Term} {C : String} (hx : (Jvm.Cond.exactly t C).value args s none s [] = some true) : ∃ a, t.eval args s none [] s = some (.ref a) ∧ Exa s s.heap a C := by
  obtain ⟨a', c', cell, k, e1, -⟩ := Cond.exactly_spec (Cond.before_iff.mpr hx)
  exact ⟨a', e1, Exa.start e1 hx⟩
theorem own_eq_int {args : Array Value} {s : State} {t : Term} {k : Int32} (h : (Jvm.Cond.eq t (Jvm.Term.int k)).value args s none s [] = some true) : t.eval args s none [] s = some (.int k) := by
  cases hv : t.eval args s none [] s with
  | none => simp [Cond.value, hv] at h
  | some v => cases v <;> simp [Cond.value, hv, Term.eval] at h <;> simp [h]
theorem own_fld_int {args : Array Value} {s : State} {t : Term} {C n d : String} {a : Addr} {k : Int32} (ev : t.eval args s none [] s = some (.ref a)) (h : (Jvm.Cond.eq (Jvm.Term.field t C n d) (Jvm.Term.int k)).value args s none s [] = some true) : Fld s s.heap a C n d (.int k) :=
  Fld.start ((fld_at ev).symm.trans (own_eq_int h))
theorem own_nar_c (x : Int32) : nar .char (x.toUInt32.toUInt16.toUInt32.toInt32) = x.toUInt32.toUInt16.toUInt32.toInt32 := Value.int.inj (Jvm.Free.XT.narrow_c x)
theorem own_nar_b (x : Int32) : nar .byte (x.toInt8.toInt32) = x.toInt8.toInt32 := Value.int.inj (Jvm.Free.XT.narrow_b x)
theorem own_NSroot {Z : State} {a0 : Array Value} {O K : String} {n : Nat} (w : (Jvm.Cond.noSuperclass O).before a0 Z = true) (wk : (Jvm.Cond.instantiable K n).before a0 Z = true) (hn : O ≠ K) : NS Z O K := by
  obtain ⟨c, k, h1, h2, h3, -, -⟩ := Cond.noSuperclass_spec w
  obtain ⟨t, kt, g1, -⟩ := Cond.instantiable_spec wk
  have ne := ids_ne h1 g1 hn
  refine ⟨c, t, h1, g1, fun fuel => ?_⟩
  cases fuel with
  | zero => rfl
  | succ f => simp [Vm.isSubclassAux, ne, h2, h3]
theorem own_NSno {Z : State} {a0 : Array Value} {C S K : String} {m : Nat} (w : (Jvm.Cond.superclass C S).before a0 Z = true) (wk : (Jvm.Cond.instantiable K m).before a0 Z = true) (n : NS Z C K) (hn : C ≠ K) : ∃ c t, Z.vm.findClass C = some c ∧ Z.vm.findClass K = some t ∧ Z.vm.assignable c t = false := by
  obtain ⟨c, t, h0, g0, n3⟩ := n
  obtain ⟨p, k, kp, h1, h2, h3, h4, h5, -, h7⟩ := Cond.superclass_spec h0 w
  obtain ⟨t', k', g1, g2, g5, g7, -⟩ := Cond.instantiable_spec wk
  cases g0.symm.trans g1
  have g8 : k'.isInterface = false := by
    cases hi : k'.isInterface <;> simp [hi] at g7 ⊢
  have ne := ids_ne h0 g0 hn
  refine ⟨c, t, h0, g0, ?_⟩
  show Z.vm.assignableAux (255 + 1) c t = false
  simp [Vm.assignableAux, ne, h2, g2, h5, g5, g8, Vm.isSubclass, n3]
theorem own_monoW {s t : State} {o : Outcome} {L : List Loc} {k n k' n' : Nat} (h : ReturnedEndW s o t L k n) (hk : k ≤ k') (hn : n ≤ n') : ReturnedEndW s o t L k' n' := ⟨h.1, h.2.1, h.2.2.1, h.2.2.2.mono hk hn⟩
theorem own_ldcSL {p : Program} {l : Launch} {e : Env} {R : Room} {s : State} {vm0 : Vm} {m : MethodId} {args : Array Value} {below : List Frame} {meth : Method} {c : Code} {T : State} {locs : List Loc} {cells slots : Nat} {Z : State} {a0 : Array Value} {h : Heap}
    (X : Stand p l e R (s.setVm vm0) m args below meth c T locs cells slots) (hx : p.tables.exec = Jvm.exec) (hZ : Z.Warmed39 vm0) {own text : String} {index : Nat} (hown : vm0.findClass own = some m.cls) (w : (Jvm.Cond.stringLink own index text).before a0 Z = true) (wS : ∀ a ∈ Bundle.stringAtoms, a.before a0 Z = true)
    (eT : T.heap = h) {k0 : Nat} (hS : s.Since vm0 k0) (hk : k0 ≤ h.size) {g : JFrame} (hg : g.method = m) (hd : decode c.code g.pc = .ok (.ldc index, 2)) {n : Nat} (hn : 4 * text.toList.length ≤ n) (hbig : n ≤ 536870912) (hc : cells + 2 ≤ R.cells) (hl : slots + (n + 4) ≤ R.slots) :
    ∃ (a : Addr) (T' : State) (h' : Heap) (k1 : Nat), Stand p l e R (s.setVm T'.vm) m args below meth c T' locs (cells + 2) (slots + (n + 4)) ∧ T'.heap = h' ∧ Ext h h' ∧ s.Since T'.vm k1 ∧ k1 ≤ h'.size ∧ Z.Warmed39 (s.setVm T'.vm).vm ∧ (s.setVm T'.vm).vm.findClass own = some m.cls ∧ Lit (s.setVm T'.vm) own index a ∧ (s.setVm vm0).Warmed39 T'.vm ∧
      ∀ target, Steps p.tables e below (T'.setTop { g with pc := g.pc + 2, stack := .ref a :: g.stack }) target → Steps p.tables e below (T.setTop g) target := by
  have wS' : ∀ d ∈ Bundle.stringAtoms, d.before args (s.setVm vm0) = true := fun d hd => by
    have q := wS d hd
    simp only [Bundle.stringAtoms, List.mem_cons, List.not_mem_nil, or_false] at hd
    rcases hd with rfl | rfl | rfl | rfl | rfl | rfl | rfl
    · exact mv (s := s.setVm vm0) hZ q
    · exact mv (s := s.setVm vm0) hZ q
    · exact mvA (s := s.setVm vm0) hZ q
    · exact mv (s := s.setVm vm0) hZ q
    · exact mv (s := s.setVm vm0) hZ q
    · exact mv (s := s.setVm vm0) hZ q
    · exact mv (s := s.setVm vm0) hZ q
  obtain ⟨a, T', X', hS', ⟨kk, hkk, hrr⟩, hb, -, st⟩ := X.ldcStringCold hx (own := own) hown (mvS hZ w) wS' hg hd hn hbig hc hl
  subst eT
  have hf : T'.vm.findClass own = some m.cls := by rw [hS'.1.alike.findClass]; exact hown
  exact ⟨a, T', _, _, X', rfl, ext_of hb, hS.trans hS' (Nat.le_trans hk (ext_of hb).1), Nat.le_refl _, State.Warmed39.trans (t := s.setVm vm0) hZ hS'.1, hf, by simp [Lit, State.resolvedAt?, hf, hkk, hrr], hS'.1, st⟩
theorem own_selfsel {Z s : State} {a0 args : Array Value} {y : MethodName} {n : Nat} (hZ : Z.Warmed39 s.vm) (wi : (Jvm.Cond.instantiable y.cls n).before a0 Z = true) (wm : (Jvm.Cond.instanceMethod y).before a0 Z = true) (wp : (Jvm.Cond.privateMethod y).before a0 Z = true) (hy : y.cls ≠ "java/lang/invoke/MethodHandle" ∧ y.cls ≠ "java/lang/invoke/VarHandle") : (Jvm.Cond.selects y.cls y y).before args s = true := by
  obtain ⟨c, k, h1, h2, -, h4, -⟩ := Cond.instantiable_spec (mvT (args := args) hZ wi)
  have g8 : k.isInterface = false := by
    cases hi : k.isInterface <;> simp [hi] at h4 ⊢
  exact selects_self_of_private h1 h2 g8 (Cond.privateMethod_at (mvP hZ wp (args := #[]))) (mvT hZ wm) hy
theorem own_addeq {k a b m n : Nat} (h : k = a + b) (h1 : a = m) (h2 : m + b = n) : k = n := by subst h1; exact h.trans h2
theorem own_lt {a b : Nat} (h : a < b) : a < b := h
theorem own_ne {a b : Nat} (h : a < b ∨ b < a) : a ≠ b := by omega

theorem own_pn0 : plainName "java/lang/Record" = true := by first | (simp [plainName, overriddenIn]; done) | decide +kernel
theorem own_pn1 : plainName "com/example/epsilonet/epsilonet/service/ObservationTree$Outcome" = true := by first | (simp [plainName, overriddenIn]; done) | decide +kernel
theorem own_pn2 : plainName "com/example/epsilonet/epsilonet/service/OutcomeMakesHoldPinLaw" = true := by first | (simp [plainName, overriddenIn]; done) | decide +kernel
theorem own_pd0 : parseMethodDescriptor "()V" = some ⟨[], none⟩ := by decide +kernel
theorem own_pd1 : parseMethodDescriptor "(JJ)V" = some ⟨[.long, .long], none⟩ := by decide +kernel
theorem own_pd2 : parseMethodDescriptor "([J)Z" = some ⟨[(.array .long)], some .boolean⟩ := by decide +kernel
theorem own_d2_0 : decode jdk_30_method_1_code 0 = .ok (.aload_n 0, 1) := by decide +kernel
theorem own_d2_1 : decode jdk_30_method_1_code 1 = .ok (.invokespecial 1, 3) := by decide +kernel
theorem own_d2_4 : decode jdk_30_method_1_code 4 = .ok (.return_, 1) := by decide +kernel
theorem own_ef_own_rm2 (m : MethodId) (x0 : Addr) : entryFrame m #[(.ref x0)] 1 = mkF m 0 #[.val (.ref x0)] [] := by first | (simp [entryFrame, mkF, argsToLocals, Value.category]; done) | rfl
def own_Q2 (Z : State) (a_1 : Addr) (h0 : Heap) (n0 : Nat) (v : Option Value) (h : Heap) (L : List Loc) : Prop := v = none ∧ Fr n0 L ∧ h = h0
set_option maxRecDepth 65536 in
set_option maxHeartbeats 40000000 in
theorem own_rm2 (l : Launch) (Z : State) (a0 : Array Value) (hw : ∀ d ∈ tables_1, d.before a0 Z = true) (ws : List Jvm.Cond) (a_1 : Addr) (h0 : Heap) (n0 : Nat) (Z0 : n0 ≤ h0.size) :
    MetFree l (⟨"java/lang/Record", "<init>", "()V"⟩ : MethodName) (head1 (Jvm.Cond.code (⟨"java/lang/Record", "<init>", "()V"⟩ : MethodName) jdk_30_method_1_code 1 none :: ws) ({ frames := 1, cells := 0, slots := 0, locals := 12 } : Room)) (fun a U => a = #[(.ref a_1)] ∧ Z.Warmed39 U.vm ∧ U.heap = h0) (fun _ _ _ _ _ => True) (fun _ U o U' => ∃ v L, o = .returned v ∧ own_Q2 Z a_1 h0 n0 v U'.heap L ∧ FrameEnd U o U' L ({ frames := 1, cells := 0, slots := 0, locals := 12 } : Room).cells ({ frames := 1, cells := 0, slots := 0, locals := 12 } : Room).slots) := by
  refine MetFree.of_bodySF (plainFor_of_name own_pn0) hisR ?_
  intro p e s m args below meth c s₁ Bd hml0 hP hK
  obtain ⟨rfl, hZ, hh⟩ := hP
  have hx := Bd.exec
  have hby := Bd.bytes
  have hml : c.maxLocals = 1 := hml0
  have hown : s.vm.findClass "java/lang/Record" = some m.cls := findClass_of_methodNamed Bd.named
  have hnm := (name_of_methodNamed Bd.named Bd.method).1
  have X0 : Stand p l e ({ frames := 1, cells := 0, slots := 0, locals := 12 } : Room) s m #[(.ref a_1)] below meth c s₁ [] 0 0 := Stand.of_body Bd
  have e0 : s₁.heap = h0 := by rw [← hh, Bd.state]; rfl
  have N0 := Fr.nil n0
  have z0 : n0 ≤ h0.size := Z0
  show own_Go p.tables e below (fun t o => t.status = .running ∧ Ended t below o ∧ ∃ v L, o = .returned v ∧ own_Q2 Z a_1 h0 n0 v t.heap L ∧ FrameEnd s o t L ({ frames := 1, cells := 0, slots := 0, locals := 12 } : Room).cells ({ frames := 1, cells := 0, slots := 0, locals := 12 } : Room).slots) s₁ (entryFrame m #[(.ref a_1)] 1)
  rw [own_ef_own_rm2 m a_1]
  show own_Go _ _ _ _ s₁ (mkF m 0 #[.val (.ref a_1)] [])
  refine own_go (fun _ k => XS.aloadN X0.here hx rfl (hb hby own_d2_0) rfl rfl k) ?_
  show own_Go _ _ _ _ s₁ (mkF m 1 #[.val (.ref a_1)] [(.ref a_1)])
  obtain ⟨T1, X1, e1, st1⟩ := initO X0 hx hZ hown (hw _ (List.mem_of_getElem? (i := 13) rfl)) (hw _ (List.mem_of_getElem? (i := 14) rfl)) (hw _ (List.mem_of_getElem? (i := 15) rfl)) e0 (g := (mkF m 1 #[.val (.ref a_1)] [(.ref a_1)])) rfl (by rw [hml]; rfl) rfl (hb hby own_d2_1) (by decide) (W := 0) (by show 2 * 0 + _ ≤ _; exact Nat.le_of_eq rfl) (by decide)
  refine own_go (fun _ k => st1 _ k) ?_
  show own_Go _ _ _ _ T1 (mkF m 4 #[.val (.ref a_1)] [])
  obtain ⟨fs, hr, hrun, hended, hW, hsame⟩ := X1.leave (v := none) (fun _ => rfl)
  refine ⟨_, _, X1.returnOut hx Bd.returns (hb hby own_d2_4) hr, hrun, hended, _, _, rfl, ?_, ⟨_, rfl⟩, hW, hsame.mono (by decide) (by decide)⟩
  show own_Q2 Z a_1 h0 n0 _ T1.heap _
  rw [e1]
  exact ⟨rfl, N0, rfl⟩
theorem own_d1_0 : decode prog_38_method_1_code 0 = .ok (.aload_n 0, 1) := by decide +kernel
theorem own_d1_1 : decode prog_38_method_1_code 1 = .ok (.invokespecial 1, 3) := by decide +kernel
theorem own_d1_4 : decode prog_38_method_1_code 4 = .ok (.aload_n 0, 1) := by decide +kernel
theorem own_d1_5 : decode prog_38_method_1_code 5 = .ok (.lload_n 1, 1) := by decide +kernel
theorem own_d1_6 : decode prog_38_method_1_code 6 = .ok (.putfield 7, 3) := by decide +kernel
theorem own_d1_9 : decode prog_38_method_1_code 9 = .ok (.aload_n 0, 1) := by decide +kernel
theorem own_d1_10 : decode prog_38_method_1_code 10 = .ok (.lload_n 3, 1) := by decide +kernel
theorem own_d1_11 : decode prog_38_method_1_code 11 = .ok (.putfield 13, 3) := by decide +kernel
theorem own_d1_14 : decode prog_38_method_1_code 14 = .ok (.return_, 1) := by decide +kernel
theorem own_ef_own_rm1 (m : MethodId) (x0 : Addr) (x1 : Int64) (x2 : Int64) : entryFrame m #[(.ref x0), (.long x1), (.long x2)] 5 = mkF m 0 #[.val (.ref x0), .val (.long x1), .second, .val (.long x2), .second] [] := by first | (simp [entryFrame, mkF, argsToLocals, Value.category]; done) | rfl
def own_Q1 (Z : State) (a_1 : Addr) (q_2 : Int64) (q_3 : Int64) (w_observed_a_1 : Int64) (w_values_a_1 : Int64) (h0 : Heap) (n0 : Nat) (v : Option Value) (h : Heap) (L : List Loc) : Prop := v = none ∧ Fr n0 L ∧ Keep h0 h [a_1] ∧ Exa Z h a_1 "com/example/epsilonet/epsilonet/service/ObservationTree$Outcome" ∧ Fld Z h a_1 "com/example/epsilonet/epsilonet/service/ObservationTree$Outcome" "observed" "J" (.long q_2) ∧ Fld Z h a_1 "com/example/epsilonet/epsilonet/service/ObservationTree$Outcome" "values" "J" (.long q_3)
set_option maxRecDepth 65536 in
set_option maxHeartbeats 40000000 in
theorem own_rm1 (l : Launch) (Z : State) (a0 : Array Value) (hw : ∀ d ∈ tables_1, d.before a0 Z = true) (ws : List Jvm.Cond) (a_1 : Addr) (q_2 : Int64) (q_3 : Int64) (w_observed_a_1 : Int64) (w_values_a_1 : Int64) (h0 : Heap) (n0 : Nat) (Z0 : n0 ≤ h0.size) (pr_E_a_1 : Exa Z h0 a_1 "com/example/epsilonet/epsilonet/service/ObservationTree$Outcome") (pr_F_a_1_observed : Fld Z h0 a_1 "com/example/epsilonet/epsilonet/service/ObservationTree$Outcome" "observed" "J" (.long w_observed_a_1)) (pr_F_a_1_values : Fld Z h0 a_1 "com/example/epsilonet/epsilonet/service/ObservationTree$Outcome" "values" "J" (.long w_values_a_1)) (gw_a_1 : n0 ≤ a_1) :
    MetFree l (⟨"com/example/epsilonet/epsilonet/service/ObservationTree$Outcome", "<init>", "(JJ)V"⟩ : MethodName) (head1 (Jvm.Cond.code (⟨"com/example/epsilonet/epsilonet/service/ObservationTree$Outcome", "<init>", "(JJ)V"⟩ : MethodName) prog_38_method_1_code 5 none :: ws) ({ frames := 2, cells := 0, slots := 0, locals := 24 } : Room)) (fun a U => a = #[(.ref a_1), (.long q_2), (.long q_3)] ∧ Z.Warmed39 U.vm ∧ U.heap = h0) (fun _ _ _ _ _ => True) (fun _ U o U' => ∃ v L, o = .returned v ∧ own_Q1 Z a_1 q_2 q_3 w_observed_a_1 w_values_a_1 h0 n0 v U'.heap L ∧ FrameEnd U o U' L ({ frames := 2, cells := 0, slots := 0, locals := 24 } : Room).cells ({ frames := 2, cells := 0, slots := 0, locals := 24 } : Room).slots) := by
  refine MetFree.of_bodySF (plainFor_of_name own_pn1) hisR ?_
  intro p e s m args below meth c s₁ Bd hml0 hP hK
  obtain ⟨rfl, hZ, hh⟩ := hP
  have hx := Bd.exec
  have hby := Bd.bytes
  have hml : c.maxLocals = 5 := hml0
  have hown : s.vm.findClass "com/example/epsilonet/epsilonet/service/ObservationTree$Outcome" = some m.cls := findClass_of_methodNamed Bd.named
  have hnm := (name_of_methodNamed Bd.named Bd.method).1
  have X0 : Stand p l e ({ frames := 2, cells := 0, slots := 0, locals := 24 } : Room) s m #[(.ref a_1), (.long q_2), (.long q_3)] below meth c s₁ [] 0 0 := Stand.of_body Bd
  have e0 : s₁.heap = h0 := by rw [← hh, Bd.state]; rfl
  have N0 := Fr.nil n0
  have z0 : n0 ≤ h0.size := Z0
  have z1 := own_lt pr_E_a_1.lt
  have z2 := own_lt pr_F_a_1_observed.lt
  have z3 := own_lt pr_F_a_1_values.lt
  have K0 : Keep h0 h0 [a_1] := Keep.refl h0 _
  show own_Go p.tables e below (fun t o => t.status = .running ∧ Ended t below o ∧ ∃ v L, o = .returned v ∧ own_Q1 Z a_1 q_2 q_3 w_observed_a_1 w_values_a_1 h0 n0 v t.heap L ∧ FrameEnd s o t L ({ frames := 2, cells := 0, slots := 0, locals := 24 } : Room).cells ({ frames := 2, cells := 0, slots := 0, locals := 24 } : Room).slots) s₁ (entryFrame m #[(.ref a_1), (.long q_2), (.long q_3)] 5)
  rw [own_ef_own_rm1 m a_1 q_2 q_3]
  show own_Go _ _ _ _ s₁ (mkF m 0 #[.val (.ref a_1), .val (.long q_2), .second, .val (.long q_3), .second] [])
  refine own_go (fun _ k => XS.aloadN X0.here hx rfl (hb hby own_d1_0) rfl rfl k) ?_
  show own_Go _ _ _ _ s₁ (mkF m 1 #[.val (.ref a_1), .val (.long q_2), .second, .val (.long q_3), .second] [(.ref a_1)])
  obtain ⟨_, _, ⟨T4, L4, k4, n4⟩, -, X4, ⟨Lc4, hQ4, l4, y4, z4⟩, st4⟩ := X0.specialBack hx (y := (⟨"java/lang/Record", "<init>", "()V"⟩ : MethodName)) rfl hown (mvT hZ (hw _ (List.mem_of_getElem? (i := 8) rfl))) (mvT hZ (hw _ (List.mem_of_getElem? (i := 9) rfl))) (mvT hZ (hw _ (List.mem_of_getElem? (i := 12) rfl))) (by decide) (backOf (W := 0) (own_rm2 l Z a0 hw [] a_1  h0 n0 (by omega) ) hZ (hw _ (List.mem_of_getElem? (i := 12) rfl)) (hw _ (List.mem_of_getElem? (i := 11) rfl)) (by decide) (by decide)) (g := (mkF m 1 #[.val (.ref a_1), .val (.long q_2), .second, .val (.long q_3), .second] [(.ref a_1)])) rfl (by rw [hml]; rfl) (Steps.refl _) (a := a_1) (argsL := []) (rest := []) (lenOf own_pd0 rfl) rfl (by show 2 * 0 + _ ≤ _; exact Nat.le_of_eq rfl) (hb hby own_d1_1) (fun _ _ => ⟨rfl, e0, (by decide : 0 + 0 ≤ _), (by decide : 0 + 0 ≤ _)⟩)
  dsimp only [Pt.U, Pt.locs, Pt.cells, Pt.slots] at X4 l4 y4 z4 st4 hQ4
  have y4 : k4 = 0 := y4
  have z4 : n4 = 0 := z4
  obtain ⟨rfl, N4q, e4⟩ := hQ4
  have N4 : Fr n0 L4 := by rw [l4]; exact Fr.app N0 N4q
  refine own_go (fun _ k => st4.trans k) ?_
  show own_Go _ _ _ _ T4 (mkF m 4 #[.val (.ref a_1), .val (.long q_2), .second, .val (.long q_3), .second] [])
  refine own_go (fun _ k => XS.aloadN X4.here hx rfl (hb hby own_d1_4) rfl rfl k) ?_
  show own_Go _ _ _ _ T4 (mkF m 5 #[.val (.ref a_1), .val (.long q_2), .second, .val (.long q_3), .second] [(.ref a_1)])
  refine own_go (fun _ k => XS.lloadN X4.here hx rfl (hb hby own_d1_5) rfl k) ?_
  show own_Go _ _ _ _ T4 (mkF m 6 #[.val (.ref a_1), .val (.long q_2), .second, .val (.long q_3), .second] [(.long q_2), (.ref a_1)])
  obtain ⟨T5, h5, X5, e5, W5, st5⟩ := putF X4 hx hZ hown (host := "") (Or.inl (hw _ (List.mem_of_getElem? (i := 16) rfl))) Via.refl e4 pr_F_a_1_observed pr_E_a_1 (Or.inr ⟨(hw _ (List.mem_of_getElem? (i := 17) rfl)), rfl, hnm⟩) (hw _ (List.mem_of_getElem? (i := 3) rfl)) (ty := .long) (by decide) rfl rfl (g := (mkF m 6 #[.val (.ref a_1), .val (.long q_2), .second, .val (.long q_3), .second] [(.long q_2), (.ref a_1)])) rfl rfl (hb hby own_d1_6)
  have z6 := W5.size
  have K5 : Keep h0 h5 [a_1] := K0.wr W5 (Or.inl (List.mem_of_getElem? (i := 0) rfl))
  have N5 := Fr.snoc X5 N4 (by omega : n0 ≤ a_1)
  have Fw5 : Fld Z h5 a_1 "com/example/epsilonet/epsilonet/service/ObservationTree$Outcome" "observed" "J" (.long q_2) := Fld.same W5 pr_F_a_1_observed
  refine own_go (fun _ k => st5 _ k) ?_
  show own_Go _ _ _ _ T5 (mkF m 9 #[.val (.ref a_1), .val (.long q_2), .second, .val (.long q_3), .second] [])
  refine own_go (fun _ k => XS.aloadN X5.here hx rfl (hb hby own_d1_9) rfl rfl k) ?_
  show own_Go _ _ _ _ T5 (mkF m 10 #[.val (.ref a_1), .val (.long q_2), .second, .val (.long q_3), .second] [(.ref a_1)])
  refine own_go (fun _ k => XS.lloadN X5.here hx rfl (hb hby own_d1_10) rfl k) ?_
  show own_Go _ _ _ _ T5 (mkF m 11 #[.val (.ref a_1), .val (.long q_2), .second, .val (.long q_3), .second] [(.long q_3), (.ref a_1)])
  have f7 : Exa Z h5 a_1 "com/example/epsilonet/epsilonet/service/ObservationTree$Outcome" := (pr_E_a_1.wr W5)
  have f8 : Fld Z h5 a_1 "com/example/epsilonet/epsilonet/service/ObservationTree$Outcome" "values" "J" (.long w_values_a_1) := (pr_F_a_1_values.other W5 (Or.inr (slot_ne (Or.inr (hw _ (List.mem_of_getElem? (i := 19) rfl))) (Or.inr (hw _ (List.mem_of_getElem? (i := 17) rfl))) (by decide) (t := .long) (t' := .long) (by decide) (by decide))))
  obtain ⟨T9, h9, X9, e9, W9, st9⟩ := putF X5 hx hZ hown (host := "") (Or.inl (hw _ (List.mem_of_getElem? (i := 18) rfl))) Via.refl e5 f8 f7 (Or.inr ⟨(hw _ (List.mem_of_getElem? (i := 19) rfl)), rfl, hnm⟩) (hw _ (List.mem_of_getElem? (i := 3) rfl)) (ty := .long) (by decide) rfl rfl (g := (mkF m 11 #[.val (.ref a_1), .val (.long q_2), .second, .val (.long q_3), .second] [(.long q_3), (.ref a_1)])) rfl rfl (hb hby own_d1_11)
  have z10 := W9.size
  have K9 : Keep h0 h9 [a_1] := K5.wr W9 (Or.inl (List.mem_of_getElem? (i := 0) rfl))
  have N9 := Fr.snoc X9 N5 (by omega : n0 ≤ a_1)
  have Fw9 : Fld Z h9 a_1 "com/example/epsilonet/epsilonet/service/ObservationTree$Outcome" "values" "J" (.long q_3) := Fld.same W9 f8
  refine own_go (fun _ k => st9 _ k) ?_
  show own_Go _ _ _ _ T9 (mkF m 14 #[.val (.ref a_1), .val (.long q_2), .second, .val (.long q_3), .second] [])
  obtain ⟨fs, hr, hrun, hended, hW, hsame⟩ := X9.leave (v := none) (fun _ => rfl)
  refine ⟨_, _, X9.returnOut hx Bd.returns (hb hby own_d1_14) hr, hrun, hended, _, _, rfl, ?_, ⟨_, rfl⟩, hW, hsame.mono (by rw [y4]; decide) (by rw [z4]; decide)⟩
  show own_Q1 Z a_1 q_2 q_3 w_observed_a_1 w_values_a_1 h0 n0 _ T9.heap _
  rw [e9]
  have f12 : Exa Z h9 a_1 "com/example/epsilonet/epsilonet/service/ObservationTree$Outcome" := (f7.wr W9)
  have f13 : Fld Z h9 a_1 "com/example/epsilonet/epsilonet/service/ObservationTree$Outcome" "observed" "J" (.long q_2) := (Fw5.other W9 (Or.inr (slot_ne (Or.inr (hw _ (List.mem_of_getElem? (i := 17) rfl))) (Or.inr (hw _ (List.mem_of_getElem? (i := 19) rfl))) (by decide) (t := .long) (t' := .long) (by decide) (by decide))))
  exact ⟨rfl, N9, K9, f12, f13, Fw9⟩
theorem own_d4_0 : decode prog_38_method_2_code 0 = .ok (.aload_n 1, 1) := by decide +kernel
theorem own_d4_1 : decode prog_38_method_2_code 1 = .ok (.iconst 0, 1) := by decide +kernel
theorem own_d4_2 : decode prog_38_method_2_code 2 = .ok (.laload, 1) := by decide +kernel
theorem own_d4_3 : decode prog_38_method_2_code 3 = .ok (.aload_n 1, 1) := by decide +kernel
theorem own_d4_4 : decode prog_38_method_2_code 4 = .ok (.iconst 1, 1) := by decide +kernel
theorem own_d4_5 : decode prog_38_method_2_code 5 = .ok (.laload, 1) := by decide +kernel
theorem own_d4_6 : decode prog_38_method_2_code 6 = .ok (.lor, 1) := by decide +kernel
theorem own_d4_7 : decode prog_38_method_2_code 7 = .ok (.aload_n 0, 1) := by decide +kernel
theorem own_d4_8 : decode prog_38_method_2_code 8 = .ok (.getfield 7, 3) := by decide +kernel
theorem own_d4_11 : decode prog_38_method_2_code 11 = .ok (.ldc2_w 16, 3) := by decide +kernel
theorem own_d4_14 : decode prog_38_method_2_code 14 = .ok (.lxor, 1) := by decide +kernel
theorem own_d4_15 : decode prog_38_method_2_code 15 = .ok (.land, 1) := by decide +kernel
theorem own_d4_16 : decode prog_38_method_2_code 16 = .ok (.lconst 0, 1) := by decide +kernel
theorem own_d4_17 : decode prog_38_method_2_code 17 = .ok (.lcmp, 1) := by decide +kernel
theorem own_d4_18 : decode prog_38_method_2_code 18 = .ok (.ifCond .ne 35, 3) := by decide +kernel
theorem own_d4_21 : decode prog_38_method_2_code 21 = .ok (.aload_n 0, 1) := by decide +kernel
theorem own_d4_22 : decode prog_38_method_2_code 22 = .ok (.getfield 13, 3) := by decide +kernel
theorem own_d4_25 : decode prog_38_method_2_code 25 = .ok (.aload_n 1, 1) := by decide +kernel
theorem own_d4_26 : decode prog_38_method_2_code 26 = .ok (.iconst 0, 1) := by decide +kernel
theorem own_d4_27 : decode prog_38_method_2_code 27 = .ok (.laload, 1) := by decide +kernel
theorem own_d4_28 : decode prog_38_method_2_code 28 = .ok (.land, 1) := by decide +kernel
theorem own_d4_29 : decode prog_38_method_2_code 29 = .ok (.aload_n 1, 1) := by decide +kernel
theorem own_d4_30 : decode prog_38_method_2_code 30 = .ok (.iconst 0, 1) := by decide +kernel
theorem own_d4_31 : decode prog_38_method_2_code 31 = .ok (.laload, 1) := by decide +kernel
theorem own_d4_32 : decode prog_38_method_2_code 32 = .ok (.lcmp, 1) := by decide +kernel
theorem own_d4_33 : decode prog_38_method_2_code 33 = .ok (.ifCond .ne 20, 3) := by decide +kernel
theorem own_d4_36 : decode prog_38_method_2_code 36 = .ok (.aload_n 0, 1) := by decide +kernel
theorem own_d4_37 : decode prog_38_method_2_code 37 = .ok (.getfield 13, 3) := by decide +kernel
theorem own_d4_40 : decode prog_38_method_2_code 40 = .ok (.aload_n 1, 1) := by decide +kernel
theorem own_d4_41 : decode prog_38_method_2_code 41 = .ok (.iconst 1, 1) := by decide +kernel
theorem own_d4_42 : decode prog_38_method_2_code 42 = .ok (.laload, 1) := by decide +kernel
theorem own_d4_43 : decode prog_38_method_2_code 43 = .ok (.land, 1) := by decide +kernel
theorem own_d4_44 : decode prog_38_method_2_code 44 = .ok (.lconst 0, 1) := by decide +kernel
theorem own_d4_45 : decode prog_38_method_2_code 45 = .ok (.lcmp, 1) := by decide +kernel
theorem own_d4_46 : decode prog_38_method_2_code 46 = .ok (.ifCond .ne 7, 3) := by decide +kernel
theorem own_d4_49 : decode prog_38_method_2_code 49 = .ok (.iconst 1, 1) := by decide +kernel
theorem own_d4_50 : decode prog_38_method_2_code 50 = .ok (.goto 4, 3) := by decide +kernel
theorem own_d4_53 : decode prog_38_method_2_code 53 = .ok (.iconst 0, 1) := by decide +kernel
theorem own_d4_54 : decode prog_38_method_2_code 54 = .ok (.ireturn, 1) := by decide +kernel
theorem own_ef_own_rm4 (m : MethodId) (x0 : Addr) (x1 : Addr) : entryFrame m #[(.ref x0), (.ref x1)] 2 = mkF m 0 #[.val (.ref x0), .val (.ref x1)] [] := by first | (simp [entryFrame, mkF, argsToLocals, Value.category]; done) | rfl
def own_rm4_ret (x0 : Int64) (x1 : Int64) (w_observed_a_1 : Int64) (w_values_a_1 : Int64) : Int32 := if ((x0 ||| x1) &&& (w_observed_a_1 ^^^ (-1 : Int64))) = (0 : Int64) then (if (w_values_a_1 &&& x0) = x0 then (if (w_values_a_1 &&& x1) = (0 : Int64) then (1 : Int32) else (0 : Int32)) else (0 : Int32)) else (0 : Int32)
def own_Q4 (Z : State) (a_1 : Addr) (a_2 : Addr) (x0 : Int64) (x1 : Int64) (w_observed_a_1 : Int64) (w_values_a_1 : Int64) (h0 : Heap) (n0 : Nat) (v : Option Value) (h : Heap) (L : List Loc) : Prop := ∃ (r_ : Int32), v = some (.int r_) ∧ Fr n0 L ∧ r_ = (own_rm4_ret x0 x1 w_observed_a_1 w_values_a_1) ∧ h = h0
set_option maxRecDepth 65536 in
set_option maxHeartbeats 40000000 in
theorem own_rm4 (l : Launch) (Z : State) (a0 : Array Value) (hw : ∀ d ∈ tables_1, d.before a0 Z = true) (ws : List Jvm.Cond) (a_1 : Addr) (a_2 : Addr) (x0 : Int64) (x1 : Int64) (w_observed_a_1 : Int64) (w_values_a_1 : Int64) (h0 : Heap) (n0 : Nat) (Z0 : n0 ≤ h0.size) (pr_A_a_2 : own_AV Z h0 a_2 .long (2 : Int32) (own_upd (own_upd (fun _ => (.long (0 : Int64))) 0 (.long x0)) 1 (.long x1))) (pr_F_a_1_observed : Fld Z h0 a_1 "com/example/epsilonet/epsilonet/service/ObservationTree$Outcome" "observed" "J" (.long w_observed_a_1)) (pr_F_a_1_values : Fld Z h0 a_1 "com/example/epsilonet/epsilonet/service/ObservationTree$Outcome" "values" "J" (.long w_values_a_1)) :
    MetFree l (⟨"com/example/epsilonet/epsilonet/service/ObservationTree$Outcome", "makesHold", "([J)Z"⟩ : MethodName) (head1 (Jvm.Cond.code (⟨"com/example/epsilonet/epsilonet/service/ObservationTree$Outcome", "makesHold", "([J)Z"⟩ : MethodName) prog_38_method_2_code 2 (some .boolean) :: ws) ({ frames := 0, cells := 0, slots := 0, locals := 0 } : Room)) (fun a U => a = #[(.ref a_1), (.ref a_2)] ∧ Z.Warmed39 U.vm ∧ U.heap = h0) (fun _ _ _ _ _ => True) (fun _ U o U' => ∃ v L, o = .returned v ∧ own_Q4 Z a_1 a_2 x0 x1 w_observed_a_1 w_values_a_1 h0 n0 v U'.heap L ∧ FrameEnd U o U' L ({ frames := 0, cells := 0, slots := 0, locals := 0 } : Room).cells ({ frames := 0, cells := 0, slots := 0, locals := 0 } : Room).slots) := by
  refine MetFree.of_bodySF (plainFor_of_name own_pn1) hisR ?_
  intro p e s m args below meth c s₁ Bd hml0 hP hK
  obtain ⟨rfl, hZ, hh⟩ := hP
  have hx := Bd.exec
  have hby := Bd.bytes
  have hml : c.maxLocals = 2 := hml0
  have hown : s.vm.findClass "com/example/epsilonet/epsilonet/service/ObservationTree$Outcome" = some m.cls := findClass_of_methodNamed Bd.named
  have hnm := (name_of_methodNamed Bd.named Bd.method).1
  have X0 : Stand p l e ({ frames := 0, cells := 0, slots := 0, locals := 0 } : Room) s m #[(.ref a_1), (.ref a_2)] below meth c s₁ [] 0 0 := Stand.of_body Bd
  have e0 : s₁.heap = h0 := by rw [← hh, Bd.state]; rfl
  have N0 := Fr.nil n0
  have z0 : n0 ≤ h0.size := Z0
  have z1 := own_lt pr_A_a_2.lt
  have z2 := own_lt pr_F_a_1_observed.lt
  have z3 := own_lt pr_F_a_1_values.lt
  show own_Go p.tables e below (fun t o => t.status = .running ∧ Ended t below o ∧ ∃ v L, o = .returned v ∧ own_Q4 Z a_1 a_2 x0 x1 w_observed_a_1 w_values_a_1 h0 n0 v t.heap L ∧ FrameEnd s o t L ({ frames := 0, cells := 0, slots := 0, locals := 0 } : Room).cells ({ frames := 0, cells := 0, slots := 0, locals := 0 } : Room).slots) s₁ (entryFrame m #[(.ref a_1), (.ref a_2)] 2)
  rw [own_ef_own_rm4 m a_1 a_2]
  show own_Go _ _ _ _ s₁ (mkF m 0 #[.val (.ref a_1), .val (.ref a_2)] [])
  refine own_go (fun _ k => XS.aloadN X0.here hx rfl (hb hby own_d4_0) rfl rfl k) ?_
  show own_Go _ _ _ _ s₁ (mkF m 1 #[.val (.ref a_1), .val (.ref a_2)] [(.ref a_2)])
  refine own_go (fun _ k => XS.iconst X0.here hx rfl (hb hby own_d4_1) k) ?_
  show own_Go _ _ _ _ s₁ (mkF m 2 #[.val (.ref a_1), .val (.ref a_2)] [(.int (0 : Int32)), (.ref a_2)])
  obtain ⟨q4, c4, R4, s4, t4⟩ := id pr_A_a_2
  have hin4 : ¬ ((0 : Int32) < 0 ∨ c4.slots.size ≤ ((0 : Int32)).toNatClampNeg) := inb_of s4 ⟨by decide, by decide⟩
  have u4 : c4.slots[((0 : Int32)).toNatClampNeg]? = some (.long x0) := own_at (k := 0) t4 s4 hin4 (by decide) (rfl)
  refine own_go (fun _ k => X0.laload hx (j := (0 : Int32)) (v := (.long x0)) (by rw [e0]; exact R4.1) (State.isArrayOf_alike hZ.alike R4.2.1) R4.2.2 hin4 u4 (g := (mkF m 2 #[.val (.ref a_1), .val (.ref a_2)] [(.int (0 : Int32)), (.ref a_2)])) rfl rfl (hb hby own_d4_2) _ k) ?_
  show own_Go _ _ _ _ s₁ (mkF m 3 #[.val (.ref a_1), .val (.ref a_2)] [(.long x0)])
  refine own_go (fun _ k => XS.aloadN X0.here hx rfl (hb hby own_d4_3) rfl rfl k) ?_
  show own_Go _ _ _ _ s₁ (mkF m 4 #[.val (.ref a_1), .val (.ref a_2)] [(.ref a_2), (.long x0)])
  refine own_go (fun _ k => XS.iconst X0.here hx rfl (hb hby own_d4_4) k) ?_
  show own_Go _ _ _ _ s₁ (mkF m 5 #[.val (.ref a_1), .val (.ref a_2)] [(.int (1 : Int32)), (.ref a_2), (.long x0)])
  obtain ⟨q5, c5, R5, s5, t5⟩ := id pr_A_a_2
  have hin5 : ¬ ((1 : Int32) < 0 ∨ c5.slots.size ≤ ((1 : Int32)).toNatClampNeg) := inb_of s5 ⟨by decide, by decide⟩
  have u5 : c5.slots[((1 : Int32)).toNatClampNeg]? = some (.long x1) := own_at (k := 1) t5 s5 hin5 (by decide) (rfl)
  refine own_go (fun _ k => X0.laload hx (j := (1 : Int32)) (v := (.long x1)) (by rw [e0]; exact R5.1) (State.isArrayOf_alike hZ.alike R5.2.1) R5.2.2 hin5 u5 (g := (mkF m 5 #[.val (.ref a_1), .val (.ref a_2)] [(.int (1 : Int32)), (.ref a_2), (.long x0)])) rfl rfl (hb hby own_d4_5) _ k) ?_
  show own_Go _ _ _ _ s₁ (mkF m 6 #[.val (.ref a_1), .val (.ref a_2)] [(.long x1), (.long x0)])
  refine own_go (fun _ k => XS.lor X0.here hx rfl (hb hby own_d4_6) rfl k) ?_
  show own_Go _ _ _ _ s₁ (mkF m 7 #[.val (.ref a_1), .val (.ref a_2)] [(.long (x0 ||| x1))])
  refine own_go (fun _ k => XS.aloadN X0.here hx rfl (hb hby own_d4_7) rfl rfl k) ?_
  show own_Go _ _ _ _ s₁ (mkF m 8 #[.val (.ref a_1), .val (.ref a_2)] [(.ref a_1), (.long (x0 ||| x1))])
  obtain ⟨T6, X6, e6, st6⟩ := getF X0 hx hZ hown (host := "") (Or.inl (hw _ (List.mem_of_getElem? (i := 16) rfl))) Via.refl e0 pr_F_a_1_observed (g := (mkF m 8 #[.val (.ref a_1), .val (.ref a_2)] [(.ref a_1), (.long (x0 ||| x1))])) rfl rfl (hb hby own_d4_8)
  refine own_go (fun _ k => st6 _ k) ?_
  show own_Go _ _ _ _ T6 (mkF m 11 #[.val (.ref a_1), .val (.ref a_2)] [(.long w_observed_a_1), (.long (x0 ||| x1))])
  refine own_go (fun _ k => X6.ldc2Long hx hown (mvT hZ (hw _ (List.mem_of_getElem? (i := 25) rfl))) (g := (mkF m 11 #[.val (.ref a_1), .val (.ref a_2)] [(.long w_observed_a_1), (.long (x0 ||| x1))])) rfl (hb hby own_d4_11) _ k) ?_
  show own_Go _ _ _ _ T6 (mkF m 14 #[.val (.ref a_1), .val (.ref a_2)] [(.long (-1 : Int64)), (.long w_observed_a_1), (.long (x0 ||| x1))])
  refine own_go (fun _ k => XS.lxor X6.here hx rfl (hb hby own_d4_14) rfl k) ?_
  show own_Go _ _ _ _ T6 (mkF m 15 #[.val (.ref a_1), .val (.ref a_2)] [(.long (w_observed_a_1 ^^^ (-1 : Int64))), (.long (x0 ||| x1))])
  refine own_go (fun _ k => XS.land X6.here hx rfl (hb hby own_d4_15) rfl k) ?_
  show own_Go _ _ _ _ T6 (mkF m 16 #[.val (.ref a_1), .val (.ref a_2)] [(.long ((x0 ||| x1) &&& (w_observed_a_1 ^^^ (-1 : Int64))))])
  refine own_go (fun _ k => XS.lconst X6.here hx rfl (hb hby own_d4_16) k) ?_
  show own_Go _ _ _ _ T6 (mkF m 17 #[.val (.ref a_1), .val (.ref a_2)] [(.long (0 : Int64)), (.long ((x0 ||| x1) &&& (w_observed_a_1 ^^^ (-1 : Int64))))])
  refine own_go (fun _ k => XS.lcmp X6.here hx rfl (hb hby own_d4_17) rfl k) ?_
  show own_Go _ _ _ _ T6 (mkF m 18 #[.val (.ref a_1), .val (.ref a_2)] [(.int (lcmpW ((x0 ||| x1) &&& (w_observed_a_1 ^^^ (-1 : Int64))) (0 : Int64)))])
  by_cases hc7 : ((x0 ||| x1) &&& (w_observed_a_1 ^^^ (-1 : Int64))) = (0 : Int64)
  · refine own_go (fun _ k => XS.ifNo X6.here hx rfl (hb hby own_d4_18) rfl (Jvm.Free.XT.ll_ne_f hc7) k) ?_
    show own_Go _ _ _ _ T6 (mkF m 21 #[.val (.ref a_1), .val (.ref a_2)] [])
    refine own_go (fun _ k => XS.aloadN X6.here hx rfl (hb hby own_d4_21) rfl rfl k) ?_
    show own_Go _ _ _ _ T6 (mkF m 22 #[.val (.ref a_1), .val (.ref a_2)] [(.ref a_1)])
    obtain ⟨T8, X8, e8, st8⟩ := getF X6 hx hZ hown (host := "") (Or.inl (hw _ (List.mem_of_getElem? (i := 18) rfl))) Via.refl e6 pr_F_a_1_values (g := (mkF m 22 #[.val (.ref a_1), .val (.ref a_2)] [(.ref a_1)])) rfl rfl (hb hby own_d4_22)
    refine own_go (fun _ k => st8 _ k) ?_
    show own_Go _ _ _ _ T8 (mkF m 25 #[.val (.ref a_1), .val (.ref a_2)] [(.long w_values_a_1)])
    refine own_go (fun _ k => XS.aloadN X8.here hx rfl (hb hby own_d4_25) rfl rfl k) ?_
    show own_Go _ _ _ _ T8 (mkF m 26 #[.val (.ref a_1), .val (.ref a_2)] [(.ref a_2), (.long w_values_a_1)])
    refine own_go (fun _ k => XS.iconst X8.here hx rfl (hb hby own_d4_26) k) ?_
    show own_Go _ _ _ _ T8 (mkF m 27 #[.val (.ref a_1), .val (.ref a_2)] [(.int (0 : Int32)), (.ref a_2), (.long w_values_a_1)])
    obtain ⟨q9, c9, R9, s9, t9⟩ := id pr_A_a_2
    have hin9 : ¬ ((0 : Int32) < 0 ∨ c9.slots.size ≤ ((0 : Int32)).toNatClampNeg) := inb_of s9 ⟨by decide, by decide⟩
    have u9 : c9.slots[((0 : Int32)).toNatClampNeg]? = some (.long x0) := own_at (k := 0) t9 s9 hin9 (by decide) (rfl)
    refine own_go (fun _ k => X8.laload hx (j := (0 : Int32)) (v := (.long x0)) (by rw [e8]; exact R9.1) (State.isArrayOf_alike hZ.alike R9.2.1) R9.2.2 hin9 u9 (g := (mkF m 27 #[.val (.ref a_1), .val (.ref a_2)] [(.int (0 : Int32)), (.ref a_2), (.long w_values_a_1)])) rfl rfl (hb hby own_d4_27) _ k) ?_
    show own_Go _ _ _ _ T8 (mkF m 28 #[.val (.ref a_1), .val (.ref a_2)] [(.long x0), (.long w_values_a_1)])
    refine own_go (fun _ k => XS.land X8.here hx rfl (hb hby own_d4_28) rfl k) ?_
    show own_Go _ _ _ _ T8 (mkF m 29 #[.val (.ref a_1), .val (.ref a_2)] [(.long (w_values_a_1 &&& x0))])
    refine own_go (fun _ k => XS.aloadN X8.here hx rfl (hb hby own_d4_29) rfl rfl k) ?_
    show own_Go _ _ _ _ T8 (mkF m 30 #[.val (.ref a_1), .val (.ref a_2)] [(.ref a_2), (.long (w_values_a_1 &&& x0))])
    refine own_go (fun _ k => XS.iconst X8.here hx rfl (hb hby own_d4_30) k) ?_
    show own_Go _ _ _ _ T8 (mkF m 31 #[.val (.ref a_1), .val (.ref a_2)] [(.int (0 : Int32)), (.ref a_2), (.long (w_values_a_1 &&& x0))])
    obtain ⟨q10, c10, R10, s10, t10⟩ := id pr_A_a_2
    have hin10 : ¬ ((0 : Int32) < 0 ∨ c10.slots.size ≤ ((0 : Int32)).toNatClampNeg) := inb_of s10 ⟨by decide, by decide⟩
    have u10 : c10.slots[((0 : Int32)).toNatClampNeg]? = some (.long x0) := own_at (k := 0) t10 s10 hin10 (by decide) (rfl)
    refine own_go (fun _ k => X8.laload hx (j := (0 : Int32)) (v := (.long x0)) (by rw [e8]; exact R10.1) (State.isArrayOf_alike hZ.alike R10.2.1) R10.2.2 hin10 u10 (g := (mkF m 31 #[.val (.ref a_1), .val (.ref a_2)] [(.int (0 : Int32)), (.ref a_2), (.long (w_values_a_1 &&& x0))])) rfl rfl (hb hby own_d4_31) _ k) ?_
    show own_Go _ _ _ _ T8 (mkF m 32 #[.val (.ref a_1), .val (.ref a_2)] [(.long x0), (.long (w_values_a_1 &&& x0))])
    refine own_go (fun _ k => XS.lcmp X8.here hx rfl (hb hby own_d4_32) rfl k) ?_
    show own_Go _ _ _ _ T8 (mkF m 33 #[.val (.ref a_1), .val (.ref a_2)] [(.int (lcmpW (w_values_a_1 &&& x0) x0))])
    by_cases hc11 : (w_values_a_1 &&& x0) = x0
    · refine own_go (fun _ k => XS.ifNo X8.here hx rfl (hb hby own_d4_33) rfl (Jvm.Free.XT.ll_ne_f hc11) k) ?_
      show own_Go _ _ _ _ T8 (mkF m 36 #[.val (.ref a_1), .val (.ref a_2)] [])
      refine own_go (fun _ k => XS.aloadN X8.here hx rfl (hb hby own_d4_36) rfl rfl k) ?_
      show own_Go _ _ _ _ T8 (mkF m 37 #[.val (.ref a_1), .val (.ref a_2)] [(.ref a_1)])
      obtain ⟨T12, X12, e12, st12⟩ := getF X8 hx hZ hown (host := "") (Or.inl (hw _ (List.mem_of_getElem? (i := 18) rfl))) Via.refl e8 pr_F_a_1_values (g := (mkF m 37 #[.val (.ref a_1), .val (.ref a_2)] [(.ref a_1)])) rfl rfl (hb hby own_d4_37)
      refine own_go (fun _ k => st12 _ k) ?_
      show own_Go _ _ _ _ T12 (mkF m 40 #[.val (.ref a_1), .val (.ref a_2)] [(.long w_values_a_1)])
      refine own_go (fun _ k => XS.aloadN X12.here hx rfl (hb hby own_d4_40) rfl rfl k) ?_
      show own_Go _ _ _ _ T12 (mkF m 41 #[.val (.ref a_1), .val (.ref a_2)] [(.ref a_2), (.long w_values_a_1)])
      refine own_go (fun _ k => XS.iconst X12.here hx rfl (hb hby own_d4_41) k) ?_
      show own_Go _ _ _ _ T12 (mkF m 42 #[.val (.ref a_1), .val (.ref a_2)] [(.int (1 : Int32)), (.ref a_2), (.long w_values_a_1)])
      obtain ⟨q13, c13, R13, s13, t13⟩ := id pr_A_a_2
      have hin13 : ¬ ((1 : Int32) < 0 ∨ c13.slots.size ≤ ((1 : Int32)).toNatClampNeg) := inb_of s13 ⟨by decide, by decide⟩
      have u13 : c13.slots[((1 : Int32)).toNatClampNeg]? = some (.long x1) := own_at (k := 1) t13 s13 hin13 (by decide) (rfl)
      refine own_go (fun _ k => X12.laload hx (j := (1 : Int32)) (v := (.long x1)) (by rw [e12]; exact R13.1) (State.isArrayOf_alike hZ.alike R13.2.1) R13.2.2 hin13 u13 (g := (mkF m 42 #[.val (.ref a_1), .val (.ref a_2)] [(.int (1 : Int32)), (.ref a_2), (.long w_values_a_1)])) rfl rfl (hb hby own_d4_42) _ k) ?_
      show own_Go _ _ _ _ T12 (mkF m 43 #[.val (.ref a_1), .val (.ref a_2)] [(.long x1), (.long w_values_a_1)])
      refine own_go (fun _ k => XS.land X12.here hx rfl (hb hby own_d4_43) rfl k) ?_
      show own_Go _ _ _ _ T12 (mkF m 44 #[.val (.ref a_1), .val (.ref a_2)] [(.long (w_values_a_1 &&& x1))])
      refine own_go (fun _ k => XS.lconst X12.here hx rfl (hb hby own_d4_44) k) ?_
      show own_Go _ _ _ _ T12 (mkF m 45 #[.val (.ref a_1), .val (.ref a_2)] [(.long (0 : Int64)), (.long (w_values_a_1 &&& x1))])
      refine own_go (fun _ k => XS.lcmp X12.here hx rfl (hb hby own_d4_45) rfl k) ?_
      show own_Go _ _ _ _ T12 (mkF m 46 #[.val (.ref a_1), .val (.ref a_2)] [(.int (lcmpW (w_values_a_1 &&& x1) (0 : Int64)))])
      by_cases hc14 : (w_values_a_1 &&& x1) = (0 : Int64)
      · refine own_go (fun _ k => XS.ifNo X12.here hx rfl (hb hby own_d4_46) rfl (Jvm.Free.XT.ll_ne_f hc14) k) ?_
        show own_Go _ _ _ _ T12 (mkF m 49 #[.val (.ref a_1), .val (.ref a_2)] [])
        refine own_go (fun _ k => XS.iconst X12.here hx rfl (hb hby own_d4_49) k) ?_
        show own_Go _ _ _ _ T12 (mkF m 50 #[.val (.ref a_1), .val (.ref a_2)] [(.int (1 : Int32))])
        refine own_go (fun _ k => XS.goto X12.here hx rfl (pc0 := 50) (pc' := 54) rfl (hb hby own_d4_50) (by decide) (by decide) k) ?_
        show own_Go _ _ _ _ T12 (mkF m 54 #[.val (.ref a_1), .val (.ref a_2)] [(.int (1 : Int32))])
        obtain ⟨fs, hr, hrun, hended, hW, hsame⟩ := X12.leave (v := some (.int (1 : Int32))) (fun h => by rw [Bd.returns] at h; cases h)
        refine ⟨_, _, retOut X12 hx Bd.returns rfl (Or.inl ⟨rfl, Or.inr (Or.inl rfl), _, rfl⟩) (hb hby own_d4_54) hr, hrun, hended, _, _, rfl, ?_, ⟨_, rfl⟩, hW, hsame.mono (by decide) (by decide)⟩
        show own_Q4 Z a_1 a_2 x0 x1 w_observed_a_1 w_values_a_1 h0 n0 _ T12.heap _
        rw [e12]
        exact ⟨_, rfl, N0, (by first | rfl | simp only [own_rm4_ret, if_pos hc7, if_pos hc11, if_pos hc14]), rfl⟩
      · refine own_go (fun _ k => XS.ifYes X12.here hx rfl (pc0 := 46) (pc' := 53) rfl (hb hby own_d4_46) rfl (Jvm.Free.XT.ll_ne_t hc14) (by decide) (by decide) k) ?_
        show own_Go _ _ _ _ T12 (mkF m 53 #[.val (.ref a_1), .val (.ref a_2)] [])
        refine own_go (fun _ k => XS.iconst X12.here hx rfl (hb hby own_d4_53) k) ?_
        show own_Go _ _ _ _ T12 (mkF m 54 #[.val (.ref a_1), .val (.ref a_2)] [(.int (0 : Int32))])
        obtain ⟨fs, hr, hrun, hended, hW, hsame⟩ := X12.leave (v := some (.int (0 : Int32))) (fun h => by rw [Bd.returns] at h; cases h)
        refine ⟨_, _, retOut X12 hx Bd.returns rfl (Or.inl ⟨rfl, Or.inr (Or.inl rfl), _, rfl⟩) (hb hby own_d4_54) hr, hrun, hended, _, _, rfl, ?_, ⟨_, rfl⟩, hW, hsame.mono (by decide) (by decide)⟩
        show own_Q4 Z a_1 a_2 x0 x1 w_observed_a_1 w_values_a_1 h0 n0 _ T12.heap _
        rw [e12]
        exact ⟨_, rfl, N0, (by first | rfl | simp only [own_rm4_ret, if_pos hc7, if_pos hc11, if_neg hc14]), rfl⟩
    · refine own_go (fun _ k => XS.ifYes X8.here hx rfl (pc0 := 33) (pc' := 53) rfl (hb hby own_d4_33) rfl (Jvm.Free.XT.ll_ne_t hc11) (by decide) (by decide) k) ?_
      show own_Go _ _ _ _ T8 (mkF m 53 #[.val (.ref a_1), .val (.ref a_2)] [])
      refine own_go (fun _ k => XS.iconst X8.here hx rfl (hb hby own_d4_53) k) ?_
      show own_Go _ _ _ _ T8 (mkF m 54 #[.val (.ref a_1), .val (.ref a_2)] [(.int (0 : Int32))])
      obtain ⟨fs, hr, hrun, hended, hW, hsame⟩ := X8.leave (v := some (.int (0 : Int32))) (fun h => by rw [Bd.returns] at h; cases h)
      refine ⟨_, _, retOut X8 hx Bd.returns rfl (Or.inl ⟨rfl, Or.inr (Or.inl rfl), _, rfl⟩) (hb hby own_d4_54) hr, hrun, hended, _, _, rfl, ?_, ⟨_, rfl⟩, hW, hsame.mono (by decide) (by decide)⟩
      show own_Q4 Z a_1 a_2 x0 x1 w_observed_a_1 w_values_a_1 h0 n0 _ T8.heap _
      rw [e8]
      exact ⟨_, rfl, N0, (by first | rfl | simp only [own_rm4_ret, if_pos hc7, if_neg hc11]), rfl⟩
  · refine own_go (fun _ k => XS.ifYes X6.here hx rfl (pc0 := 18) (pc' := 53) rfl (hb hby own_d4_18) rfl (Jvm.Free.XT.ll_ne_t hc7) (by decide) (by decide) k) ?_
    show own_Go _ _ _ _ T6 (mkF m 53 #[.val (.ref a_1), .val (.ref a_2)] [])
    refine own_go (fun _ k => XS.iconst X6.here hx rfl (hb hby own_d4_53) k) ?_
    show own_Go _ _ _ _ T6 (mkF m 54 #[.val (.ref a_1), .val (.ref a_2)] [(.int (0 : Int32))])
    obtain ⟨fs, hr, hrun, hended, hW, hsame⟩ := X6.leave (v := some (.int (0 : Int32))) (fun h => by rw [Bd.returns] at h; cases h)
    refine ⟨_, _, retOut X6 hx Bd.returns rfl (Or.inl ⟨rfl, Or.inr (Or.inl rfl), _, rfl⟩) (hb hby own_d4_54) hr, hrun, hended, _, _, rfl, ?_, ⟨_, rfl⟩, hW, hsame.mono (by decide) (by decide)⟩
    show own_Q4 Z a_1 a_2 x0 x1 w_observed_a_1 w_values_a_1 h0 n0 _ T6.heap _
    rw [e6]
    exact ⟨_, rfl, N0, (by first | rfl | simp only [own_rm4_ret, if_neg hc7]), rfl⟩
theorem own_z (x : Int64) : x = 0 ↔ ∀ i, i < 64 → x.toBitVec.getLsbD i = false := by
  rw [← Int64.toBitVec_inj]
  constructor
  · intro h i hi; rw [h]; simp
  · intro h; apply BitVec.eq_of_getLsbD_eq; intro i hi; rw [h i hi]; simp
theorem own_e (x y : Int64) : x = y ↔ ∀ i, i < 64 → x.toBitVec.getLsbD i = y.toBitVec.getLsbD i := by
  rw [← Int64.toBitVec_inj]
  constructor
  · intro h i hi; rw [h]
  · intro h; apply BitVec.eq_of_getLsbD_eq; exact h
theorem own_m1 (i : Nat) (hi : i < 64) : (-1 : Int64).toBitVec.getLsbD i = true := by
  have : (-1 : Int64).toBitVec = BitVec.allOnes 64 := by decide
  rw [this, BitVec.getLsbD_allOnes]; exact decide_eq_true hi
theorem own_mk (o v p n : Int64) : (((p ||| n) &&& (o ^^^ (-1 : Int64))) = 0 ∧ (v &&& p) = p ∧ (v &&& n) = 0) ↔ ((p &&& ((o &&& v) ^^^ (-1 : Int64))) = 0 ∧ (n &&& ((o &&& (v ^^^ (-1 : Int64))) ^^^ (-1 : Int64))) = 0) := by
  rw [own_z, own_e, own_z, own_z, own_z]
  simp only [Int64.toBitVec_and, Int64.toBitVec_or, Int64.toBitVec_xor, BitVec.getLsbD_and, BitVec.getLsbD_or, BitVec.getLsbD_xor]
  constructor
  · rintro ⟨h1, h2, h3⟩
    refine ⟨fun i hi => ?_, fun i hi => ?_⟩
    all_goals
      have a1 := h1 i hi; have a2 := h2 i hi; have a3 := h3 i hi
      rw [own_m1 i hi] at *
      revert a1 a2 a3
      cases o.toBitVec.getLsbD i <;> cases v.toBitVec.getLsbD i <;> cases p.toBitVec.getLsbD i <;> cases n.toBitVec.getLsbD i <;> decide
  · rintro ⟨h1, h2⟩
    refine ⟨fun i hi => ?_, fun i hi => ?_, fun i hi => ?_⟩
    all_goals
      have a1 := h1 i hi; have a2 := h2 i hi
      try rw [own_m1 i hi] at *
      revert a1 a2
      cases o.toBitVec.getLsbD i <;> cases v.toBitVec.getLsbD i <;> cases p.toBitVec.getLsbD i <;> cases n.toBitVec.getLsbD i <;> simp

theorem own_ef_own_rm0 (m : MethodId) (x0 : Int64) (x1 : Int64) (x2 : Int64) (x3 : Int64) (x4 : Int32) : entryFrame m #[(.long x0), (.long x1), (.long x2), (.long x3), (.int x4)] maxLocals = mkF m 0 #[.val (.long x0), .second, .val (.long x1), .second, .val (.long x2), .second, .val (.long x3), .second, .val (.int x4), .unset, .unset, .unset, .unset, .unset, .unset, .unset, .unset, .unset, .unset, .unset, .unset] [] := by first | (simp [entryFrame, mkF, argsToLocals, Value.category, maxLocals]; done) | rfl
set_option maxRecDepth 65536 in
set_option maxHeartbeats 4000000 in
theorem own_t0_0 (q_1 : Int64) (q_2 : Int64) (q_3 : Int64) (q_4 : Int64) (r23 : Int32) (v24 : Int64) (v25 : Int64) (hr_r23 : r23 = (own_rm4_ret q_3 q_4 q_1 q_2)) (hdv24 : (q_1 &&& q_2) = v24) (hdv25 : (q_1 &&& (q_2 ^^^ (-1 : Int64))) = v25) (hc26 : (q_3 &&& (v24 ^^^ (-1 : Int64))) = (0 : Int64)) (hc27 : (q_4 &&& (v25 ^^^ (-1 : Int64))) = (0 : Int64)) : r23 = (1 : Int32) := by
  have h := own_mk q_1 q_2 q_3 q_4
  grind [own_rm4_ret]
set_option maxRecDepth 65536 in
set_option maxHeartbeats 4000000 in
theorem own_t0_1 (q_1 : Int64) (q_2 : Int64) (q_3 : Int64) (q_4 : Int64) (r23 : Int32) (v24 : Int64) (v25 : Int64) (hr_r23 : r23 = (own_rm4_ret q_3 q_4 q_1 q_2)) (hdv24 : (q_1 &&& q_2) = v24) (hdv25 : (q_1 &&& (q_2 ^^^ (-1 : Int64))) = v25) (hc26 : (q_3 &&& (v24 ^^^ (-1 : Int64))) = (0 : Int64)) (hc27 : ¬ ((q_4 &&& (v25 ^^^ (-1 : Int64))) = (0 : Int64))) : r23 = (0 : Int32) := by
  have h := own_mk q_1 q_2 q_3 q_4
  grind [own_rm4_ret]
set_option maxRecDepth 65536 in
set_option maxHeartbeats 4000000 in
theorem own_t0_2 (q_1 : Int64) (q_2 : Int64) (q_3 : Int64) (q_4 : Int64) (r23 : Int32) (v24 : Int64) (v25 : Int64) (hr_r23 : r23 = (own_rm4_ret q_3 q_4 q_1 q_2)) (hdv24 : (q_1 &&& q_2) = v24) (hdv25 : (q_1 &&& (q_2 ^^^ (-1 : Int64))) = v25) (hc26 : ¬ ((q_3 &&& (v24 ^^^ (-1 : Int64))) = (0 : Int64))) : r23 = (0 : Int32) := by
  have h := own_mk q_1 q_2 q_3 q_4
  grind [own_rm4_ret]
set_option maxRecDepth 65536 in
set_option maxHeartbeats 4000000 in
theorem own_t0_3 (q_1 : Int64) (q_2 : Int64) (q_3 : Int64) (q_4 : Int64) (v46 : Int64) (r67 : Int32) (v68 : Int64) (v69 : Int64) (hdv46 : ((q_4 &&& q_1) &&& (q_2 ^^^ (-1 : Int64))) = v46) (hr_r67 : r67 = (own_rm4_ret q_3 v46 q_1 q_2)) (hdv68 : (q_1 &&& q_2) = v68) (hdv69 : (q_1 &&& (q_2 ^^^ (-1 : Int64))) = v69) (hc70 : (q_3 &&& (v68 ^^^ (-1 : Int64))) = (0 : Int64)) (hc71 : (v46 &&& (v69 ^^^ (-1 : Int64))) = (0 : Int64)) : r67 = (1 : Int32) := by
  have h := own_mk q_1 q_2 q_3 v46
  grind [own_rm4_ret]
set_option maxRecDepth 65536 in
set_option maxHeartbeats 4000000 in
theorem own_t0_4 (q_1 : Int64) (q_2 : Int64) (q_3 : Int64) (q_4 : Int64) (v46 : Int64) (r67 : Int32) (v68 : Int64) (v69 : Int64) (hdv46 : ((q_4 &&& q_1) &&& (q_2 ^^^ (-1 : Int64))) = v46) (hr_r67 : r67 = (own_rm4_ret q_3 v46 q_1 q_2)) (hdv68 : (q_1 &&& q_2) = v68) (hdv69 : (q_1 &&& (q_2 ^^^ (-1 : Int64))) = v69) (hc70 : (q_3 &&& (v68 ^^^ (-1 : Int64))) = (0 : Int64)) (hc71 : ¬ ((v46 &&& (v69 ^^^ (-1 : Int64))) = (0 : Int64))) : r67 = (0 : Int32) := by
  have h := own_mk q_1 q_2 q_3 v46
  grind [own_rm4_ret]
set_option maxRecDepth 65536 in
set_option maxHeartbeats 4000000 in
theorem own_t0_5 (q_1 : Int64) (q_2 : Int64) (q_3 : Int64) (q_4 : Int64) (v46 : Int64) (r67 : Int32) (v68 : Int64) (v69 : Int64) (hdv46 : ((q_4 &&& q_1) &&& (q_2 ^^^ (-1 : Int64))) = v46) (hr_r67 : r67 = (own_rm4_ret q_3 v46 q_1 q_2)) (hdv68 : (q_1 &&& q_2) = v68) (hdv69 : (q_1 &&& (q_2 ^^^ (-1 : Int64))) = v69) (hc70 : ¬ ((q_3 &&& (v68 ^^^ (-1 : Int64))) = (0 : Int64))) : r67 = (0 : Int32) := by
  have h := own_mk q_1 q_2 q_3 v46
  grind [own_rm4_ret]
set_option maxRecDepth 65536 in
set_option maxHeartbeats 4000000 in
theorem own_t0_6 (q_1 : Int64) (q_2 : Int64) (q_3 : Int64) (q_4 : Int64) (v90 : Int64) (r112 : Int32) (v113 : Int64) (v114 : Int64) (hdv90 : ((q_3 &&& q_1) &&& q_2) = v90) (hr_r112 : r112 = (own_rm4_ret v90 q_4 q_1 q_2)) (hdv113 : (q_1 &&& q_2) = v113) (hdv114 : (q_1 &&& (q_2 ^^^ (-1 : Int64))) = v114) (hc115 : (v90 &&& (v113 ^^^ (-1 : Int64))) = (0 : Int64)) (hc116 : (q_4 &&& (v114 ^^^ (-1 : Int64))) = (0 : Int64)) : r112 = (1 : Int32) := by
  have h := own_mk q_1 q_2 v90 q_4
  grind [own_rm4_ret]
set_option maxRecDepth 65536 in
set_option maxHeartbeats 4000000 in
theorem own_t0_7 (q_1 : Int64) (q_2 : Int64) (q_3 : Int64) (q_4 : Int64) (v90 : Int64) (r112 : Int32) (v113 : Int64) (v114 : Int64) (hdv90 : ((q_3 &&& q_1) &&& q_2) = v90) (hr_r112 : r112 = (own_rm4_ret v90 q_4 q_1 q_2)) (hdv113 : (q_1 &&& q_2) = v113) (hdv114 : (q_1 &&& (q_2 ^^^ (-1 : Int64))) = v114) (hc115 : (v90 &&& (v113 ^^^ (-1 : Int64))) = (0 : Int64)) (hc116 : ¬ ((q_4 &&& (v114 ^^^ (-1 : Int64))) = (0 : Int64))) : r112 = (0 : Int32) := by
  have h := own_mk q_1 q_2 v90 q_4
  grind [own_rm4_ret]
set_option maxRecDepth 65536 in
set_option maxHeartbeats 4000000 in
theorem own_t0_8 (q_1 : Int64) (q_2 : Int64) (q_3 : Int64) (q_4 : Int64) (v90 : Int64) (r112 : Int32) (v113 : Int64) (v114 : Int64) (hdv90 : ((q_3 &&& q_1) &&& q_2) = v90) (hr_r112 : r112 = (own_rm4_ret v90 q_4 q_1 q_2)) (hdv113 : (q_1 &&& q_2) = v113) (hdv114 : (q_1 &&& (q_2 ^^^ (-1 : Int64))) = v114) (hc115 : ¬ ((v90 &&& (v113 ^^^ (-1 : Int64))) = (0 : Int64))) : r112 = (0 : Int32) := by
  have h := own_mk q_1 q_2 v90 q_4
  grind [own_rm4_ret]
set_option maxRecDepth 65536 in
set_option maxHeartbeats 4000000 in
theorem own_t0_9 (q_1 : Int64) (q_2 : Int64) (q_3 : Int64) (q_4 : Int64) (v90 : Int64) (v135 : Int64) (r156 : Int32) (v157 : Int64) (v158 : Int64) (hdv90 : ((q_3 &&& q_1) &&& q_2) = v90) (hdv135 : ((q_4 &&& q_1) &&& (q_2 ^^^ (-1 : Int64))) = v135) (hr_r156 : r156 = (own_rm4_ret v90 v135 q_1 q_2)) (hdv157 : (q_1 &&& q_2) = v157) (hdv158 : (q_1 &&& (q_2 ^^^ (-1 : Int64))) = v158) (hc159 : (v90 &&& (v157 ^^^ (-1 : Int64))) = (0 : Int64)) (hc160 : (v135 &&& (v158 ^^^ (-1 : Int64))) = (0 : Int64)) : r156 = (1 : Int32) := by
  have h := own_mk q_1 q_2 v90 v135
  grind [own_rm4_ret]
set_option maxRecDepth 65536 in
set_option maxHeartbeats 4000000 in
theorem own_t0_10 (q_1 : Int64) (q_2 : Int64) (q_3 : Int64) (q_4 : Int64) (v90 : Int64) (v135 : Int64) (r156 : Int32) (v157 : Int64) (v158 : Int64) (hdv90 : ((q_3 &&& q_1) &&& q_2) = v90) (hdv135 : ((q_4 &&& q_1) &&& (q_2 ^^^ (-1 : Int64))) = v135) (hr_r156 : r156 = (own_rm4_ret v90 v135 q_1 q_2)) (hdv157 : (q_1 &&& q_2) = v157) (hdv158 : (q_1 &&& (q_2 ^^^ (-1 : Int64))) = v158) (hc159 : (v90 &&& (v157 ^^^ (-1 : Int64))) = (0 : Int64)) (hc160 : ¬ ((v135 &&& (v158 ^^^ (-1 : Int64))) = (0 : Int64))) : r156 = (0 : Int32) := by
  have h := own_mk q_1 q_2 v90 v135
  grind [own_rm4_ret]
set_option maxRecDepth 65536 in
set_option maxHeartbeats 4000000 in
theorem own_t0_11 (q_1 : Int64) (q_2 : Int64) (q_3 : Int64) (q_4 : Int64) (v90 : Int64) (v135 : Int64) (r156 : Int32) (v157 : Int64) (v158 : Int64) (hdv90 : ((q_3 &&& q_1) &&& q_2) = v90) (hdv135 : ((q_4 &&& q_1) &&& (q_2 ^^^ (-1 : Int64))) = v135) (hr_r156 : r156 = (own_rm4_ret v90 v135 q_1 q_2)) (hdv157 : (q_1 &&& q_2) = v157) (hdv158 : (q_1 &&& (q_2 ^^^ (-1 : Int64))) = v158) (hc159 : ¬ ((v90 &&& (v157 ^^^ (-1 : Int64))) = (0 : Int64))) : r156 = (0 : Int32) := by
  have h := own_mk q_1 q_2 v90 v135
  grind [own_rm4_ret]
def own_Q0 (Z : State) (q_1 : Int64) (q_2 : Int64) (q_3 : Int64) (q_4 : Int64) (p_5 : Int32) (h0 : Heap) (n0 : Nat) (v : Option Value) (h : Heap) (L : List Loc) : Prop := v = some (.int (1 : Int32)) ∧ Fr n0 L
set_option maxRecDepth 65536 in
set_option maxHeartbeats 40000000 in
theorem own_rm0 (l : Launch) (Z : State) (a0 : Array Value) (hw : ∀ d ∈ tables_1, d.before a0 Z = true) (ws : List Jvm.Cond) (q_1 : Int64) (q_2 : Int64) (q_3 : Int64) (q_4 : Int64) (p_5 : Int32) (h0 : Heap) (n0 : Nat) (Z0 : n0 ≤ h0.size) :
    MetFree l x (head1 (Jvm.Cond.code x code maxLocals ret :: ws) room_1) (fun a U => a = #[(.long q_1), (.long q_2), (.long q_3), (.long q_4), (.int p_5)] ∧ Z.Warmed39 U.vm ∧ U.heap = h0) (fun _ _ _ _ _ => True) (fun _ U o U' => ∃ v L, o = .returned v ∧ own_Q0 Z q_1 q_2 q_3 q_4 p_5 h0 n0 v U'.heap L ∧ FrameEnd U o U' L 2 4) := by
  refine MetFree.of_bodySF (plainFor_of_name own_pn2) hisR ?_
  intro p e s m args below meth c s₁ Bd hml0 hP hK
  obtain ⟨rfl, hZ, hh⟩ := hP
  have hx := Bd.exec
  have hby := Bd.bytes
  have hml : c.maxLocals = 21 := hml0
  have hown : s.vm.findClass "com/example/epsilonet/epsilonet/service/OutcomeMakesHoldPinLaw" = some m.cls := findClass_of_methodNamed Bd.named
  have hnm := (name_of_methodNamed Bd.named Bd.method).1
  have X0 : Stand p l e room_1 s m #[(.long q_1), (.long q_2), (.long q_3), (.long q_4), (.int p_5)] below meth c s₁ [] 0 0 := Stand.of_body Bd
  have e0 : s₁.heap = h0 := by rw [← hh, Bd.state]; rfl
  have N0 := Fr.nil n0
  have z0 : n0 ≤ h0.size := Z0
  show own_Go p.tables e below (fun t o => t.status = .running ∧ Ended t below o ∧ ∃ v L, o = .returned v ∧ own_Q0 Z q_1 q_2 q_3 q_4 p_5 h0 n0 v t.heap L ∧ FrameEnd s o t L 2 4) s₁ (entryFrame m #[(.long q_1), (.long q_2), (.long q_3), (.long q_4), (.int p_5)] maxLocals)
  rw [own_ef_own_rm0 m q_1 q_2 q_3 q_4 p_5]
  show own_Go _ _ _ _ s₁ (mkF m 0 #[.val (.long q_1), .second, .val (.long q_2), .second, .val (.long q_3), .second, .val (.long q_4), .second, .val (.int p_5), .unset, .unset, .unset, .unset, .unset, .unset, .unset, .unset, .unset, .unset, .unset, .unset] [])
  refine own_go (fun _ k => XS.iload X0.here hx rfl (hb hby at_0) rfl k) ?_
  show own_Go _ _ _ _ s₁ (mkF m 2 #[.val (.long q_1), .second, .val (.long q_2), .second, .val (.long q_3), .second, .val (.long q_4), .second, .val (.int p_5), .unset, .unset, .unset, .unset, .unset, .unset, .unset, .unset, .unset, .unset, .unset, .unset] [(.int p_5)])
  refine own_go (fun _ k => XS.iconst X0.here hx rfl (hb hby at_2) k) ?_
  show own_Go _ _ _ _ s₁ (mkF m 3 #[.val (.long q_1), .second, .val (.long q_2), .second, .val (.long q_3), .second, .val (.long q_4), .second, .val (.int p_5), .unset, .unset, .unset, .unset, .unset, .unset, .unset, .unset, .unset, .unset, .unset, .unset] [(.int (1 : Int32)), (.int p_5)])
  refine own_go (fun _ k => XS.iand X0.here hx rfl (hb hby at_3) rfl k) ?_
  show own_Go _ _ _ _ s₁ (mkF m 4 #[.val (.long q_1), .second, .val (.long q_2), .second, .val (.long q_3), .second, .val (.long q_4), .second, .val (.int p_5), .unset, .unset, .unset, .unset, .unset, .unset, .unset, .unset, .unset, .unset, .unset, .unset] [(.int (p_5 &&& (1 : Int32)))])
  by_cases hc1 : (p_5 &&& (1 : Int32)) = 0
  · refine own_go (fun _ k => XS.ifYes X0.here hx rfl (pc0 := 4) (pc' := 16) rfl (hb hby at_4) rfl (Jvm.Free.XT.i0_eq_t hc1) (by decide) (by decide) k) ?_
    show own_Go _ _ _ _ s₁ (mkF m 16 #[.val (.long q_1), .second, .val (.long q_2), .second, .val (.long q_3), .second, .val (.long q_4), .second, .val (.int p_5), .unset, .unset, .unset, .unset, .unset, .unset, .unset, .unset, .unset, .unset, .unset, .unset] [])
    refine own_go (fun _ k => XS.lload X0.here hx rfl (hb hby at_16) rfl k) ?_
    show own_Go _ _ _ _ s₁ (mkF m 18 #[.val (.long q_1), .second, .val (.long q_2), .second, .val (.long q_3), .second, .val (.long q_4), .second, .val (.int p_5), .unset, .unset, .unset, .unset, .unset, .unset, .unset, .unset, .unset, .unset, .unset, .unset] [(.long q_3)])
    refine own_go (fun _ k => XS.lstore X0.here hx rfl (hb hby at_18) rfl (l' := #[.val (.long q_1), .second, .val (.long q_2), .second, .val (.long q_3), .second, .val (.long q_4), .second, .val (.int p_5), .val (.long q_3), .second, .unset, .unset, .unset, .unset, .unset, .unset, .unset, .unset, .unset, .unset]) rfl k) ?_
    show own_Go _ _ _ _ s₁ (mkF m 20 #[.val (.long q_1), .second, .val (.long q_2), .second, .val (.long q_3), .second, .val (.long q_4), .second, .val (.int p_5), .val (.long q_3), .second, .unset, .unset, .unset, .unset, .unset, .unset, .unset, .unset, .unset, .unset] [])
    refine own_go (fun _ k => XS.iload X0.here hx rfl (hb hby at_20) rfl k) ?_
    show own_Go _ _ _ _ s₁ (mkF m 22 #[.val (.long q_1), .second, .val (.long q_2), .second, .val (.long q_3), .second, .val (.long q_4), .second, .val (.int p_5), .val (.long q_3), .second, .unset, .unset, .unset, .unset, .unset, .unset, .unset, .unset, .unset, .unset] [(.int p_5)])
    refine own_go (fun _ k => XS.iconst X0.here hx rfl (hb hby at_22) k) ?_
    show own_Go _ _ _ _ s₁ (mkF m 23 #[.val (.long q_1), .second, .val (.long q_2), .second, .val (.long q_3), .second, .val (.long q_4), .second, .val (.int p_5), .val (.long q_3), .second, .unset, .unset, .unset, .unset, .unset, .unset, .unset, .unset, .unset, .unset] [(.int (2 : Int32)), (.int p_5)])
    refine own_go (fun _ k => XS.iand X0.here hx rfl (hb hby at_23) rfl k) ?_
    show own_Go _ _ _ _ s₁ (mkF m 24 #[.val (.long q_1), .second, .val (.long q_2), .second, .val (.long q_3), .second, .val (.long q_4), .second, .val (.int p_5), .val (.long q_3), .second, .unset, .unset, .unset, .unset, .unset, .unset, .unset, .unset, .unset, .unset] [(.int (p_5 &&& (2 : Int32)))])
    by_cases hc2 : (p_5 &&& (2 : Int32)) = 0
    · refine own_go (fun _ k => XS.ifYes X0.here hx rfl (pc0 := 24) (pc' := 40) rfl (hb hby at_24) rfl (Jvm.Free.XT.i0_eq_t hc2) (by decide) (by decide) k) ?_
      show own_Go _ _ _ _ s₁ (mkF m 40 #[.val (.long q_1), .second, .val (.long q_2), .second, .val (.long q_3), .second, .val (.long q_4), .second, .val (.int p_5), .val (.long q_3), .second, .unset, .unset, .unset, .unset, .unset, .unset, .unset, .unset, .unset, .unset] [])
      refine own_go (fun _ k => XS.lload X0.here hx rfl (hb hby at_40) rfl k) ?_
      show own_Go _ _ _ _ s₁ (mkF m 42 #[.val (.long q_1), .second, .val (.long q_2), .second, .val (.long q_3), .second, .val (.long q_4), .second, .val (.int p_5), .val (.long q_3), .second, .unset, .unset, .unset, .unset, .unset, .unset, .unset, .unset, .unset, .unset] [(.long q_4)])
      refine own_go (fun _ k => XS.lstore X0.here hx rfl (hb hby at_42) rfl (l' := #[.val (.long q_1), .second, .val (.long q_2), .second, .val (.long q_3), .second, .val (.long q_4), .second, .val (.int p_5), .val (.long q_3), .second, .val (.long q_4), .second, .unset, .unset, .unset, .unset, .unset, .unset, .unset, .unset]) rfl k) ?_
      show own_Go _ _ _ _ s₁ (mkF m 44 #[.val (.long q_1), .second, .val (.long q_2), .second, .val (.long q_3), .second, .val (.long q_4), .second, .val (.int p_5), .val (.long q_3), .second, .val (.long q_4), .second, .unset, .unset, .unset, .unset, .unset, .unset, .unset, .unset] [])
      refine own_go (fun _ k => XS.iconst X0.here hx rfl (hb hby at_44) k) ?_
      show own_Go _ _ _ _ s₁ (mkF m 45 #[.val (.long q_1), .second, .val (.long q_2), .second, .val (.long q_3), .second, .val (.long q_4), .second, .val (.int p_5), .val (.long q_3), .second, .val (.long q_4), .second, .unset, .unset, .unset, .unset, .unset, .unset, .unset, .unset] [(.int (2 : Int32))])
      obtain ⟨T3, h3, k3, X3, e3, E3, A3, st3⟩ := newP X0 hx hZ (hw _ (List.mem_of_getElem? (i := 1) rfl)) e0 (g := (mkF m 45 #[.val (.long q_1), .second, .val (.long q_2), .second, .val (.long q_3), .second, .val (.long q_4), .second, .val (.int p_5), .val (.long q_3), .second, .val (.long q_4), .second, .unset, .unset, .unset, .unset, .unset, .unset, .unset, .unset] [(.int (2 : Int32))])) rfl (hb hby at_45) rfl (by decide) (cap := 2) (by decide) (by decide) (by decide) (by decide)
      obtain ⟨b3, g3⟩ : ∃ z, z = h0.size := ⟨_, rfl⟩
      rw [← g3] at A3 st3
      have z4 := E3.1
      have lt_b3 := own_lt A3.lt
      have V_b3 : own_AV Z h3 b3 .long (2 : Int32) (fun _ => (.long (0 : Int64))) := own_AV.new A3 (by decide)
      refine own_go (fun _ k => st3 _ k) ?_
      show own_Go _ _ _ _ T3 (mkF m 47 #[.val (.long q_1), .second, .val (.long q_2), .second, .val (.long q_3), .second, .val (.long q_4), .second, .val (.int p_5), .val (.long q_3), .second, .val (.long q_4), .second, .unset, .unset, .unset, .unset, .unset, .unset, .unset, .unset] [(.ref b3)])
      refine own_go (fun _ k => XS.astore X3.here hx rfl (hb hby at_47) rfl rfl (l' := #[.val (.long q_1), .second, .val (.long q_2), .second, .val (.long q_3), .second, .val (.long q_4), .second, .val (.int p_5), .val (.long q_3), .second, .val (.long q_4), .second, .val (.ref b3), .unset, .unset, .unset, .unset, .unset, .unset, .unset]) rfl k) ?_
      show own_Go _ _ _ _ T3 (mkF m 49 #[.val (.long q_1), .second, .val (.long q_2), .second, .val (.long q_3), .second, .val (.long q_4), .second, .val (.int p_5), .val (.long q_3), .second, .val (.long q_4), .second, .val (.ref b3), .unset, .unset, .unset, .unset, .unset, .unset, .unset] [])
      refine own_go (fun _ k => XS.aload X3.here hx rfl (hb hby at_49) rfl rfl k) ?_
      show own_Go _ _ _ _ T3 (mkF m 51 #[.val (.long q_1), .second, .val (.long q_2), .second, .val (.long q_3), .second, .val (.long q_4), .second, .val (.int p_5), .val (.long q_3), .second, .val (.long q_4), .second, .val (.ref b3), .unset, .unset, .unset, .unset, .unset, .unset, .unset] [(.ref b3)])
      refine own_go (fun _ k => XS.iconst X3.here hx rfl (hb hby at_51) k) ?_
      show own_Go _ _ _ _ T3 (mkF m 52 #[.val (.long q_1), .second, .val (.long q_2), .second, .val (.long q_3), .second, .val (.long q_4), .second, .val (.int p_5), .val (.long q_3), .second, .val (.long q_4), .second, .val (.ref b3), .unset, .unset, .unset, .unset, .unset, .unset, .unset] [(.int (0 : Int32)), (.ref b3)])
      refine own_go (fun _ k => XS.lload X3.here hx rfl (hb hby at_52) rfl k) ?_
      show own_Go _ _ _ _ T3 (mkF m 54 #[.val (.long q_1), .second, .val (.long q_2), .second, .val (.long q_3), .second, .val (.long q_4), .second, .val (.int p_5), .val (.long q_3), .second, .val (.long q_4), .second, .val (.ref b3), .unset, .unset, .unset, .unset, .unset, .unset, .unset] [(.long q_3), (.int (0 : Int32)), (.ref b3)])
      obtain ⟨q5, c5, R5, s5, t5⟩ := id V_b3
      have hin5 : ¬ ((0 : Int32) < 0 ∨ c5.slots.size ≤ ((0 : Int32)).toNatClampNeg) := inb_of s5 ⟨by decide, by decide⟩
      obtain ⟨T6, h6, X6, e6, W6, st6⟩ := stJ X3 hx hZ e3 R5 (j := (0 : Int32)) hin5 (g := (mkF m 54 #[.val (.long q_1), .second, .val (.long q_2), .second, .val (.long q_3), .second, .val (.long q_4), .second, .val (.int p_5), .val (.long q_3), .second, .val (.long q_4), .second, .val (.ref b3), .unset, .unset, .unset, .unset, .unset, .unset, .unset] [(.long q_3), (.int (0 : Int32)), (.ref b3)])) rfl rfl (hb hby at_54)
      have V6 : own_AV Z h6 b3 .long (2 : Int32) (own_upd (fun _ => (.long (0 : Int64))) 0 (.long q_3)) := own_AV.set (k := 0) V_b3 W6 (by decide)
      have z7 := W6.size
      have N6 := Fr.snoc X6 N0 (by omega : n0 ≤ b3)
      refine own_go (fun _ k => st6 _ k) ?_
      show own_Go _ _ _ _ T6 (mkF m 55 #[.val (.long q_1), .second, .val (.long q_2), .second, .val (.long q_3), .second, .val (.long q_4), .second, .val (.int p_5), .val (.long q_3), .second, .val (.long q_4), .second, .val (.ref b3), .unset, .unset, .unset, .unset, .unset, .unset, .unset] [])
      refine own_go (fun _ k => XS.aload X6.here hx rfl (hb hby at_55) rfl rfl k) ?_
      show own_Go _ _ _ _ T6 (mkF m 57 #[.val (.long q_1), .second, .val (.long q_2), .second, .val (.long q_3), .second, .val (.long q_4), .second, .val (.int p_5), .val (.long q_3), .second, .val (.long q_4), .second, .val (.ref b3), .unset, .unset, .unset, .unset, .unset, .unset, .unset] [(.ref b3)])
      refine own_go (fun _ k => XS.iconst X6.here hx rfl (hb hby at_57) k) ?_
      show own_Go _ _ _ _ T6 (mkF m 58 #[.val (.long q_1), .second, .val (.long q_2), .second, .val (.long q_3), .second, .val (.long q_4), .second, .val (.int p_5), .val (.long q_3), .second, .val (.long q_4), .second, .val (.ref b3), .unset, .unset, .unset, .unset, .unset, .unset, .unset] [(.int (1 : Int32)), (.ref b3)])
      refine own_go (fun _ k => XS.lload X6.here hx rfl (hb hby at_58) rfl k) ?_
      show own_Go _ _ _ _ T6 (mkF m 60 #[.val (.long q_1), .second, .val (.long q_2), .second, .val (.long q_3), .second, .val (.long q_4), .second, .val (.int p_5), .val (.long q_3), .second, .val (.long q_4), .second, .val (.ref b3), .unset, .unset, .unset, .unset, .unset, .unset, .unset] [(.long q_4), (.int (1 : Int32)), (.ref b3)])
      obtain ⟨q8, c8, R8, s8, t8⟩ := id V6
      have hin8 : ¬ ((1 : Int32) < 0 ∨ c8.slots.size ≤ ((1 : Int32)).toNatClampNeg) := inb_of s8 ⟨by decide, by decide⟩
      obtain ⟨T9, h9, X9, e9, W9, st9⟩ := stJ X6 hx hZ e6 R8 (j := (1 : Int32)) hin8 (g := (mkF m 60 #[.val (.long q_1), .second, .val (.long q_2), .second, .val (.long q_3), .second, .val (.long q_4), .second, .val (.int p_5), .val (.long q_3), .second, .val (.long q_4), .second, .val (.ref b3), .unset, .unset, .unset, .unset, .unset, .unset, .unset] [(.long q_4), (.int (1 : Int32)), (.ref b3)])) rfl rfl (hb hby at_60)
      have V9 : own_AV Z h9 b3 .long (2 : Int32) (own_upd (own_upd (fun _ => (.long (0 : Int64))) 0 (.long q_3)) 1 (.long q_4)) := own_AV.set (k := 1) V6 W9 (by decide)
      have z10 := W9.size
      have N9 := Fr.snoc X9 N6 (by omega : n0 ≤ b3)
      refine own_go (fun _ k => st9 _ k) ?_
      show own_Go _ _ _ _ T9 (mkF m 61 #[.val (.long q_1), .second, .val (.long q_2), .second, .val (.long q_3), .second, .val (.long q_4), .second, .val (.int p_5), .val (.long q_3), .second, .val (.long q_4), .second, .val (.ref b3), .unset, .unset, .unset, .unset, .unset, .unset, .unset] [])
      obtain ⟨T11, h11, X11, e11, E11, A11, D11, Y11, st11⟩ := newO X9 hx hZ hown (hw _ (List.mem_of_getElem? (i := 2) rfl)) (hw _ (List.mem_of_getElem? (i := 3) rfl)) (hw _ (List.mem_of_getElem? (i := 4) rfl)) e9 (g := (mkF m 61 #[.val (.long q_1), .second, .val (.long q_2), .second, .val (.long q_3), .second, .val (.long q_4), .second, .val (.int p_5), .val (.long q_3), .second, .val (.long q_4), .second, .val (.ref b3), .unset, .unset, .unset, .unset, .unset, .unset, .unset] [])) rfl (hb hby at_61) (by decide) (by decide)
      obtain ⟨b11, g11⟩ : ∃ z, z = h9.size := ⟨_, rfl⟩
      rw [← g11] at A11 D11 Y11 st11
      have z12 := E11.1
      have lt_b11 := own_lt A11.lt
      have F_observed_b11 : Fld Z h11 b11 "com/example/epsilonet/epsilonet/service/ObservationTree$Outcome" "observed" "J" (.long (0 : Int64)) := D11 (Or.inr (hw _ (List.mem_of_getElem? (i := 17) rfl))) (ty := .long) (by decide)
      have F_values_b11 : Fld Z h11 b11 "com/example/epsilonet/epsilonet/service/ObservationTree$Outcome" "values" "J" (.long (0 : Int64)) := D11 (Or.inr (hw _ (List.mem_of_getElem? (i := 19) rfl))) (ty := .long) (by decide)
      refine own_go (fun _ k => st11 _ k) ?_
      show own_Go _ _ _ _ T11 (mkF m 64 #[.val (.long q_1), .second, .val (.long q_2), .second, .val (.long q_3), .second, .val (.long q_4), .second, .val (.int p_5), .val (.long q_3), .second, .val (.long q_4), .second, .val (.ref b3), .unset, .unset, .unset, .unset, .unset, .unset, .unset] [(.ref b11)])
      refine own_go (fun _ k => XS.dup X11.here hx rfl (hb hby at_64) rfl rfl k) ?_
      show own_Go _ _ _ _ T11 (mkF m 65 #[.val (.long q_1), .second, .val (.long q_2), .second, .val (.long q_3), .second, .val (.long q_4), .second, .val (.int p_5), .val (.long q_3), .second, .val (.long q_4), .second, .val (.ref b3), .unset, .unset, .unset, .unset, .unset, .unset, .unset] [(.ref b11), (.ref b11)])
      refine own_go (fun _ k => XS.lloadN X11.here hx rfl (hb hby at_65) rfl k) ?_
      show own_Go _ _ _ _ T11 (mkF m 66 #[.val (.long q_1), .second, .val (.long q_2), .second, .val (.long q_3), .second, .val (.long q_4), .second, .val (.int p_5), .val (.long q_3), .second, .val (.long q_4), .second, .val (.ref b3), .unset, .unset, .unset, .unset, .unset, .unset, .unset] [(.long q_1), (.ref b11), (.ref b11)])
      refine own_go (fun _ k => XS.lloadN X11.here hx rfl (hb hby at_66) rfl k) ?_
      show own_Go _ _ _ _ T11 (mkF m 67 #[.val (.long q_1), .second, .val (.long q_2), .second, .val (.long q_3), .second, .val (.long q_4), .second, .val (.int p_5), .val (.long q_3), .second, .val (.long q_4), .second, .val (.ref b3), .unset, .unset, .unset, .unset, .unset, .unset, .unset] [(.long q_2), (.long q_1), (.ref b11), (.ref b11)])
      obtain ⟨_, _, ⟨T13, L13, k13, n13⟩, -, X13, ⟨Lc13, hQ13, l13, y13, z13⟩, st13⟩ := X11.specialBack hx (y := (⟨"com/example/epsilonet/epsilonet/service/ObservationTree$Outcome", "<init>", "(JJ)V"⟩ : MethodName)) rfl hown (mvT hZ (hw _ (List.mem_of_getElem? (i := 5) rfl))) (mvT hZ (hw _ (List.mem_of_getElem? (i := 6) rfl))) (mvT hZ (hw _ (List.mem_of_getElem? (i := 7) rfl))) (by decide) (backOf (W := 1) (own_rm1 l Z a0 hw [] b11 q_1 q_2 (0 : Int64) (0 : Int64) h11 n0 (by omega) A11 F_observed_b11 F_values_b11 (by omega)) hZ (hw _ (List.mem_of_getElem? (i := 7) rfl)) (hw _ (List.mem_of_getElem? (i := 4) rfl)) (by decide) (by decide)) (g := (mkF m 67 #[.val (.long q_1), .second, .val (.long q_2), .second, .val (.long q_3), .second, .val (.long q_4), .second, .val (.int p_5), .val (.long q_3), .second, .val (.long q_4), .second, .val (.ref b3), .unset, .unset, .unset, .unset, .unset, .unset, .unset] [(.long q_2), (.long q_1), (.ref b11), (.ref b11)])) rfl (by rw [hml]; rfl) (Steps.refl _) (a := b11) (argsL := [(.long q_1), (.long q_2)]) (rest := [(.ref b11)]) (lenOf own_pd1 rfl) rfl (by show 2 * 0 + _ ≤ _; exact Nat.le_of_eq rfl) (hb hby at_67) (fun _ _ => ⟨rfl, e11, (by decide : 2 + 0 ≤ _), (by decide : 4 + 0 ≤ _)⟩)
      dsimp only [Pt.U, Pt.locs, Pt.cells, Pt.slots] at X13 l13 y13 z13 st13 hQ13
      have y13 : k13 = 2 := y13
      have z13 : n13 = 4 := z13
      obtain ⟨rfl, N13q, K13q, f14, f15, f16⟩ := hQ13
      have N13 : Fr n0 L13 := by rw [l13]; exact Fr.app N9 N13q
      have z17 := K13q.1
      have z18 := own_lt f14.lt
      have z19 := own_lt f15.lt
      have z20 := own_lt f16.lt
      refine own_go (fun _ k => st13.trans k) ?_
      show own_Go _ _ _ _ T13 (mkF m 70 #[.val (.long q_1), .second, .val (.long q_2), .second, .val (.long q_3), .second, .val (.long q_4), .second, .val (.int p_5), .val (.long q_3), .second, .val (.long q_4), .second, .val (.ref b3), .unset, .unset, .unset, .unset, .unset, .unset, .unset] [(.ref b11)])
      refine own_go (fun _ k => XS.astore X13.here hx rfl (hb hby at_70) rfl rfl (l' := #[.val (.long q_1), .second, .val (.long q_2), .second, .val (.long q_3), .second, .val (.long q_4), .second, .val (.int p_5), .val (.long q_3), .second, .val (.long q_4), .second, .val (.ref b3), .val (.ref b11), .unset, .unset, .unset, .unset, .unset, .unset]) rfl k) ?_
      show own_Go _ _ _ _ T13 (mkF m 72 #[.val (.long q_1), .second, .val (.long q_2), .second, .val (.long q_3), .second, .val (.long q_4), .second, .val (.int p_5), .val (.long q_3), .second, .val (.long q_4), .second, .val (.ref b3), .val (.ref b11), .unset, .unset, .unset, .unset, .unset, .unset] [])
      refine own_go (fun _ k => XS.aload X13.here hx rfl (hb hby at_72) rfl rfl k) ?_
      show own_Go _ _ _ _ T13 (mkF m 74 #[.val (.long q_1), .second, .val (.long q_2), .second, .val (.long q_3), .second, .val (.long q_4), .second, .val (.int p_5), .val (.long q_3), .second, .val (.long q_4), .second, .val (.ref b3), .val (.ref b11), .unset, .unset, .unset, .unset, .unset, .unset] [(.ref b11)])
      refine own_go (fun _ k => XS.aload X13.here hx rfl (hb hby at_74) rfl rfl k) ?_
      show own_Go _ _ _ _ T13 (mkF m 76 #[.val (.long q_1), .second, .val (.long q_2), .second, .val (.long q_3), .second, .val (.long q_4), .second, .val (.int p_5), .val (.long q_3), .second, .val (.long q_4), .second, .val (.ref b3), .val (.ref b11), .unset, .unset, .unset, .unset, .unset, .unset] [(.ref b3), (.ref b11)])
      have f21 : own_AV Z T13.heap b3 .long (2 : Int32) (own_upd (own_upd (fun _ => (.long (0 : Int64))) 0 (.long q_3)) 1 (.long q_4)) := ((V9.ext E11).keep K13q (ninS (own_ne (by omega)) nin0))
      obtain ⟨cq22, kq22, q22a, q22b, q22c⟩ := isOf hZ rfl f14
      obtain ⟨_, _, ⟨T22, L22, k22, n22⟩, -, X22, ⟨Lc22, hQ22, l22, y22, z22⟩, st22⟩ := X13.virtualBack hx (y := (⟨"com/example/epsilonet/epsilonet/service/ObservationTree$Outcome", "makesHold", "([J)Z"⟩ : MethodName)) (z := (⟨"com/example/epsilonet/epsilonet/service/ObservationTree$Outcome", "makesHold", "([J)Z"⟩ : MethodName)) hown (mvT hZ (hw _ (List.mem_of_getElem? (i := 20) rfl))) (mvT hZ (hw _ (List.mem_of_getElem? (i := 21) rfl))) (notFace_of_selects (args := #[]) (mvT hZ (hw _ (List.mem_of_getElem? (i := 23) rfl)))) (mvT hZ (hw _ (List.mem_of_getElem? (i := 23) rfl))) (mvT hZ (hw _ (List.mem_of_getElem? (i := 22) rfl))) (by decide) (backOf (W := 0) (own_rm4 l Z a0 hw [] b11 b3 q_3 q_4 q_1 q_2 T13.heap n0 (by omega) f21 f15 f16) hZ (hw _ (List.mem_of_getElem? (i := 24) rfl)) (hw _ (List.mem_of_getElem? (i := 4) rfl)) (by decide) (by decide)) q22a q22c (g := (mkF m 76 #[.val (.long q_1), .second, .val (.long q_2), .second, .val (.long q_3), .second, .val (.long q_4), .second, .val (.int p_5), .val (.long q_3), .second, .val (.long q_4), .second, .val (.ref b3), .val (.ref b11), .unset, .unset, .unset, .unset, .unset, .unset] [(.ref b3), (.ref b11)])) rfl (by rw [hml]; rfl) (Steps.refl _) (argsL := [(.ref b3)]) (rest := []) (lenOf own_pd2 rfl) rfl (by show 2 * 0 + _ ≤ _; exact Nat.le_of_eq rfl) (hb hby at_76) (fun _ _ => ⟨rfl, rfl, (by show k13 + _ ≤ _; rw [y13]; decide), (by show n13 + _ ≤ _; rw [z13]; decide)⟩)
      dsimp only [Pt.U, Pt.locs, Pt.cells, Pt.slots] at X22 l22 y22 z22 st22 hQ22
      have y22 : k22 = 2 := own_addeq y22 (congrArg (fun q => q) y13) rfl
      have z22 : n22 = 4 := own_addeq z22 (congrArg (fun q => q) z13) rfl
      obtain ⟨r23, rfl, N22q, hr_r23, e22⟩ := hQ22
      have N22 : Fr n0 L22 := by rw [l22]; exact Fr.app N13 N22q
      refine own_go (fun _ k => st22.trans k) ?_
      show own_Go _ _ _ _ T22 (mkF m 79 #[.val (.long q_1), .second, .val (.long q_2), .second, .val (.long q_3), .second, .val (.long q_4), .second, .val (.int p_5), .val (.long q_3), .second, .val (.long q_4), .second, .val (.ref b3), .val (.ref b11), .unset, .unset, .unset, .unset, .unset, .unset] [(.int r23)])
      refine own_go (fun _ k => XS.istore X22.here hx rfl (hb hby at_79) rfl (l' := #[.val (.long q_1), .second, .val (.long q_2), .second, .val (.long q_3), .second, .val (.long q_4), .second, .val (.int p_5), .val (.long q_3), .second, .val (.long q_4), .second, .val (.ref b3), .val (.ref b11), .val (.int r23), .unset, .unset, .unset, .unset, .unset]) rfl k) ?_
      show own_Go _ _ _ _ T22 (mkF m 81 #[.val (.long q_1), .second, .val (.long q_2), .second, .val (.long q_3), .second, .val (.long q_4), .second, .val (.int p_5), .val (.long q_3), .second, .val (.long q_4), .second, .val (.ref b3), .val (.ref b11), .val (.int r23), .unset, .unset, .unset, .unset, .unset] [])
      refine own_go (fun _ k => XS.lloadN X22.here hx rfl (hb hby at_81) rfl k) ?_
      show own_Go _ _ _ _ T22 (mkF m 82 #[.val (.long q_1), .second, .val (.long q_2), .second, .val (.long q_3), .second, .val (.long q_4), .second, .val (.int p_5), .val (.long q_3), .second, .val (.long q_4), .second, .val (.ref b3), .val (.ref b11), .val (.int r23), .unset, .unset, .unset, .unset, .unset] [(.long q_1)])
      refine own_go (fun _ k => XS.lloadN X22.here hx rfl (hb hby at_82) rfl k) ?_
      show own_Go _ _ _ _ T22 (mkF m 83 #[.val (.long q_1), .second, .val (.long q_2), .second, .val (.long q_3), .second, .val (.long q_4), .second, .val (.int p_5), .val (.long q_3), .second, .val (.long q_4), .second, .val (.ref b3), .val (.ref b11), .val (.int r23), .unset, .unset, .unset, .unset, .unset] [(.long q_2), (.long q_1)])
      refine own_go (fun _ k => XS.land X22.here hx rfl (hb hby at_83) rfl k) ?_
      show own_Go _ _ _ _ T22 (mkF m 84 #[.val (.long q_1), .second, .val (.long q_2), .second, .val (.long q_3), .second, .val (.long q_4), .second, .val (.int p_5), .val (.long q_3), .second, .val (.long q_4), .second, .val (.ref b3), .val (.ref b11), .val (.int r23), .unset, .unset, .unset, .unset, .unset] [(.long (q_1 &&& q_2))])
      refine own_go (fun _ k => XS.lstore X22.here hx rfl (hb hby at_84) rfl (l' := #[.val (.long q_1), .second, .val (.long q_2), .second, .val (.long q_3), .second, .val (.long q_4), .second, .val (.int p_5), .val (.long q_3), .second, .val (.long q_4), .second, .val (.ref b3), .val (.ref b11), .val (.int r23), .val (.long (q_1 &&& q_2)), .second, .unset, .unset, .unset]) rfl k) ?_
      show own_Go _ _ _ _ T22 (mkF m 86 #[.val (.long q_1), .second, .val (.long q_2), .second, .val (.long q_3), .second, .val (.long q_4), .second, .val (.int p_5), .val (.long q_3), .second, .val (.long q_4), .second, .val (.ref b3), .val (.ref b11), .val (.int r23), .val (.long (q_1 &&& q_2)), .second, .unset, .unset, .unset] [])
      generalize hdv24 : (q_1 &&& q_2) = v24
      show own_Go _ _ _ _ T22 (mkF m 86 #[.val (.long q_1), .second, .val (.long q_2), .second, .val (.long q_3), .second, .val (.long q_4), .second, .val (.int p_5), .val (.long q_3), .second, .val (.long q_4), .second, .val (.ref b3), .val (.ref b11), .val (.int r23), .val (.long v24), .second, .unset, .unset, .unset] [])
      refine own_go (fun _ k => XS.lloadN X22.here hx rfl (hb hby at_86) rfl k) ?_
      show own_Go _ _ _ _ T22 (mkF m 87 #[.val (.long q_1), .second, .val (.long q_2), .second, .val (.long q_3), .second, .val (.long q_4), .second, .val (.int p_5), .val (.long q_3), .second, .val (.long q_4), .second, .val (.ref b3), .val (.ref b11), .val (.int r23), .val (.long v24), .second, .unset, .unset, .unset] [(.long q_1)])
      refine own_go (fun _ k => XS.lloadN X22.here hx rfl (hb hby at_87) rfl k) ?_
      show own_Go _ _ _ _ T22 (mkF m 88 #[.val (.long q_1), .second, .val (.long q_2), .second, .val (.long q_3), .second, .val (.long q_4), .second, .val (.int p_5), .val (.long q_3), .second, .val (.long q_4), .second, .val (.ref b3), .val (.ref b11), .val (.int r23), .val (.long v24), .second, .unset, .unset, .unset] [(.long q_2), (.long q_1)])
      refine own_go (fun _ k => X22.ldc2Long hx hown (mvT hZ (hw _ (List.mem_of_getElem? (i := 0) rfl))) (g := (mkF m 88 #[.val (.long q_1), .second, .val (.long q_2), .second, .val (.long q_3), .second, .val (.long q_4), .second, .val (.int p_5), .val (.long q_3), .second, .val (.long q_4), .second, .val (.ref b3), .val (.ref b11), .val (.int r23), .val (.long v24), .second, .unset, .unset, .unset] [(.long q_2), (.long q_1)])) rfl (hb hby at_88) _ k) ?_
      show own_Go _ _ _ _ T22 (mkF m 91 #[.val (.long q_1), .second, .val (.long q_2), .second, .val (.long q_3), .second, .val (.long q_4), .second, .val (.int p_5), .val (.long q_3), .second, .val (.long q_4), .second, .val (.ref b3), .val (.ref b11), .val (.int r23), .val (.long v24), .second, .unset, .unset, .unset] [(.long (-1 : Int64)), (.long q_2), (.long q_1)])
      refine own_go (fun _ k => XS.lxor X22.here hx rfl (hb hby at_91) rfl k) ?_
      show own_Go _ _ _ _ T22 (mkF m 92 #[.val (.long q_1), .second, .val (.long q_2), .second, .val (.long q_3), .second, .val (.long q_4), .second, .val (.int p_5), .val (.long q_3), .second, .val (.long q_4), .second, .val (.ref b3), .val (.ref b11), .val (.int r23), .val (.long v24), .second, .unset, .unset, .unset] [(.long (q_2 ^^^ (-1 : Int64))), (.long q_1)])
      refine own_go (fun _ k => XS.land X22.here hx rfl (hb hby at_92) rfl k) ?_
      show own_Go _ _ _ _ T22 (mkF m 93 #[.val (.long q_1), .second, .val (.long q_2), .second, .val (.long q_3), .second, .val (.long q_4), .second, .val (.int p_5), .val (.long q_3), .second, .val (.long q_4), .second, .val (.ref b3), .val (.ref b11), .val (.int r23), .val (.long v24), .second, .unset, .unset, .unset] [(.long (q_1 &&& (q_2 ^^^ (-1 : Int64))))])
      refine own_go (fun _ k => XS.lstore X22.here hx rfl (hb hby at_93) rfl (l' := #[.val (.long q_1), .second, .val (.long q_2), .second, .val (.long q_3), .second, .val (.long q_4), .second, .val (.int p_5), .val (.long q_3), .second, .val (.long q_4), .second, .val (.ref b3), .val (.ref b11), .val (.int r23), .val (.long v24), .second, .val (.long (q_1 &&& (q_2 ^^^ (-1 : Int64)))), .second, .unset]) rfl k) ?_
      show own_Go _ _ _ _ T22 (mkF m 95 #[.val (.long q_1), .second, .val (.long q_2), .second, .val (.long q_3), .second, .val (.long q_4), .second, .val (.int p_5), .val (.long q_3), .second, .val (.long q_4), .second, .val (.ref b3), .val (.ref b11), .val (.int r23), .val (.long v24), .second, .val (.long (q_1 &&& (q_2 ^^^ (-1 : Int64)))), .second, .unset] [])
      generalize hdv25 : (q_1 &&& (q_2 ^^^ (-1 : Int64))) = v25
      show own_Go _ _ _ _ T22 (mkF m 95 #[.val (.long q_1), .second, .val (.long q_2), .second, .val (.long q_3), .second, .val (.long q_4), .second, .val (.int p_5), .val (.long q_3), .second, .val (.long q_4), .second, .val (.ref b3), .val (.ref b11), .val (.int r23), .val (.long v24), .second, .val (.long v25), .second, .unset] [])
      refine own_go (fun _ k => XS.lload X22.here hx rfl (hb hby at_95) rfl k) ?_
      show own_Go _ _ _ _ T22 (mkF m 97 #[.val (.long q_1), .second, .val (.long q_2), .second, .val (.long q_3), .second, .val (.long q_4), .second, .val (.int p_5), .val (.long q_3), .second, .val (.long q_4), .second, .val (.ref b3), .val (.ref b11), .val (.int r23), .val (.long v24), .second, .val (.long v25), .second, .unset] [(.long q_3)])
      refine own_go (fun _ k => XS.lload X22.here hx rfl (hb hby at_97) rfl k) ?_
      show own_Go _ _ _ _ T22 (mkF m 99 #[.val (.long q_1), .second, .val (.long q_2), .second, .val (.long q_3), .second, .val (.long q_4), .second, .val (.int p_5), .val (.long q_3), .second, .val (.long q_4), .second, .val (.ref b3), .val (.ref b11), .val (.int r23), .val (.long v24), .second, .val (.long v25), .second, .unset] [(.long v24), (.long q_3)])
      refine own_go (fun _ k => X22.ldc2Long hx hown (mvT hZ (hw _ (List.mem_of_getElem? (i := 0) rfl))) (g := (mkF m 99 #[.val (.long q_1), .second, .val (.long q_2), .second, .val (.long q_3), .second, .val (.long q_4), .second, .val (.int p_5), .val (.long q_3), .second, .val (.long q_4), .second, .val (.ref b3), .val (.ref b11), .val (.int r23), .val (.long v24), .second, .val (.long v25), .second, .unset] [(.long v24), (.long q_3)])) rfl (hb hby at_99) _ k) ?_
      show own_Go _ _ _ _ T22 (mkF m 102 #[.val (.long q_1), .second, .val (.long q_2), .second, .val (.long q_3), .second, .val (.long q_4), .second, .val (.int p_5), .val (.long q_3), .second, .val (.long q_4), .second, .val (.ref b3), .val (.ref b11), .val (.int r23), .val (.long v24), .second, .val (.long v25), .second, .unset] [(.long (-1 : Int64)), (.long v24), (.long q_3)])
      refine own_go (fun _ k => XS.lxor X22.here hx rfl (hb hby at_102) rfl k) ?_
      show own_Go _ _ _ _ T22 (mkF m 103 #[.val (.long q_1), .second, .val (.long q_2), .second, .val (.long q_3), .second, .val (.long q_4), .second, .val (.int p_5), .val (.long q_3), .second, .val (.long q_4), .second, .val (.ref b3), .val (.ref b11), .val (.int r23), .val (.long v24), .second, .val (.long v25), .second, .unset] [(.long (v24 ^^^ (-1 : Int64))), (.long q_3)])
      refine own_go (fun _ k => XS.land X22.here hx rfl (hb hby at_103) rfl k) ?_
      show own_Go _ _ _ _ T22 (mkF m 104 #[.val (.long q_1), .second, .val (.long q_2), .second, .val (.long q_3), .second, .val (.long q_4), .second, .val (.int p_5), .val (.long q_3), .second, .val (.long q_4), .second, .val (.ref b3), .val (.ref b11), .val (.int r23), .val (.long v24), .second, .val (.long v25), .second, .unset] [(.long (q_3 &&& (v24 ^^^ (-1 : Int64))))])
      refine own_go (fun _ k => XS.lconst X22.here hx rfl (hb hby at_104) k) ?_
      show own_Go _ _ _ _ T22 (mkF m 105 #[.val (.long q_1), .second, .val (.long q_2), .second, .val (.long q_3), .second, .val (.long q_4), .second, .val (.int p_5), .val (.long q_3), .second, .val (.long q_4), .second, .val (.ref b3), .val (.ref b11), .val (.int r23), .val (.long v24), .second, .val (.long v25), .second, .unset] [(.long (0 : Int64)), (.long (q_3 &&& (v24 ^^^ (-1 : Int64))))])
      refine own_go (fun _ k => XS.lcmp X22.here hx rfl (hb hby at_105) rfl k) ?_
      show own_Go _ _ _ _ T22 (mkF m 106 #[.val (.long q_1), .second, .val (.long q_2), .second, .val (.long q_3), .second, .val (.long q_4), .second, .val (.int p_5), .val (.long q_3), .second, .val (.long q_4), .second, .val (.ref b3), .val (.ref b11), .val (.int r23), .val (.long v24), .second, .val (.long v25), .second, .unset] [(.int (lcmpW (q_3 &&& (v24 ^^^ (-1 : Int64))) (0 : Int64)))])
      by_cases hc26 : (q_3 &&& (v24 ^^^ (-1 : Int64))) = (0 : Int64)
      · refine own_go (fun _ k => XS.ifNo X22.here hx rfl (hb hby at_106) rfl (Jvm.Free.XT.ll_ne_f hc26) k) ?_
        show own_Go _ _ _ _ T22 (mkF m 109 #[.val (.long q_1), .second, .val (.long q_2), .second, .val (.long q_3), .second, .val (.long q_4), .second, .val (.int p_5), .val (.long q_3), .second, .val (.long q_4), .second, .val (.ref b3), .val (.ref b11), .val (.int r23), .val (.long v24), .second, .val (.long v25), .second, .unset] [])
        refine own_go (fun _ k => XS.lload X22.here hx rfl (hb hby at_109) rfl k) ?_
        show own_Go _ _ _ _ T22 (mkF m 111 #[.val (.long q_1), .second, .val (.long q_2), .second, .val (.long q_3), .second, .val (.long q_4), .second, .val (.int p_5), .val (.long q_3), .second, .val (.long q_4), .second, .val (.ref b3), .val (.ref b11), .val (.int r23), .val (.long v24), .second, .val (.long v25), .second, .unset] [(.long q_4)])
        refine own_go (fun _ k => XS.lload X22.here hx rfl (hb hby at_111) rfl k) ?_
        show own_Go _ _ _ _ T22 (mkF m 113 #[.val (.long q_1), .second, .val (.long q_2), .second, .val (.long q_3), .second, .val (.long q_4), .second, .val (.int p_5), .val (.long q_3), .second, .val (.long q_4), .second, .val (.ref b3), .val (.ref b11), .val (.int r23), .val (.long v24), .second, .val (.long v25), .second, .unset] [(.long v25), (.long q_4)])
        refine own_go (fun _ k => X22.ldc2Long hx hown (mvT hZ (hw _ (List.mem_of_getElem? (i := 0) rfl))) (g := (mkF m 113 #[.val (.long q_1), .second, .val (.long q_2), .second, .val (.long q_3), .second, .val (.long q_4), .second, .val (.int p_5), .val (.long q_3), .second, .val (.long q_4), .second, .val (.ref b3), .val (.ref b11), .val (.int r23), .val (.long v24), .second, .val (.long v25), .second, .unset] [(.long v25), (.long q_4)])) rfl (hb hby at_113) _ k) ?_
        show own_Go _ _ _ _ T22 (mkF m 116 #[.val (.long q_1), .second, .val (.long q_2), .second, .val (.long q_3), .second, .val (.long q_4), .second, .val (.int p_5), .val (.long q_3), .second, .val (.long q_4), .second, .val (.ref b3), .val (.ref b11), .val (.int r23), .val (.long v24), .second, .val (.long v25), .second, .unset] [(.long (-1 : Int64)), (.long v25), (.long q_4)])
        refine own_go (fun _ k => XS.lxor X22.here hx rfl (hb hby at_116) rfl k) ?_
        show own_Go _ _ _ _ T22 (mkF m 117 #[.val (.long q_1), .second, .val (.long q_2), .second, .val (.long q_3), .second, .val (.long q_4), .second, .val (.int p_5), .val (.long q_3), .second, .val (.long q_4), .second, .val (.ref b3), .val (.ref b11), .val (.int r23), .val (.long v24), .second, .val (.long v25), .second, .unset] [(.long (v25 ^^^ (-1 : Int64))), (.long q_4)])
        refine own_go (fun _ k => XS.land X22.here hx rfl (hb hby at_117) rfl k) ?_
        show own_Go _ _ _ _ T22 (mkF m 118 #[.val (.long q_1), .second, .val (.long q_2), .second, .val (.long q_3), .second, .val (.long q_4), .second, .val (.int p_5), .val (.long q_3), .second, .val (.long q_4), .second, .val (.ref b3), .val (.ref b11), .val (.int r23), .val (.long v24), .second, .val (.long v25), .second, .unset] [(.long (q_4 &&& (v25 ^^^ (-1 : Int64))))])
        refine own_go (fun _ k => XS.lconst X22.here hx rfl (hb hby at_118) k) ?_
        show own_Go _ _ _ _ T22 (mkF m 119 #[.val (.long q_1), .second, .val (.long q_2), .second, .val (.long q_3), .second, .val (.long q_4), .second, .val (.int p_5), .val (.long q_3), .second, .val (.long q_4), .second, .val (.ref b3), .val (.ref b11), .val (.int r23), .val (.long v24), .second, .val (.long v25), .second, .unset] [(.long (0 : Int64)), (.long (q_4 &&& (v25 ^^^ (-1 : Int64))))])
        refine own_go (fun _ k => XS.lcmp X22.here hx rfl (hb hby at_119) rfl k) ?_
        show own_Go _ _ _ _ T22 (mkF m 120 #[.val (.long q_1), .second, .val (.long q_2), .second, .val (.long q_3), .second, .val (.long q_4), .second, .val (.int p_5), .val (.long q_3), .second, .val (.long q_4), .second, .val (.ref b3), .val (.ref b11), .val (.int r23), .val (.long v24), .second, .val (.long v25), .second, .unset] [(.int (lcmpW (q_4 &&& (v25 ^^^ (-1 : Int64))) (0 : Int64)))])
        by_cases hc27 : (q_4 &&& (v25 ^^^ (-1 : Int64))) = (0 : Int64)
        · refine own_go (fun _ k => XS.ifNo X22.here hx rfl (hb hby at_120) rfl (Jvm.Free.XT.ll_ne_f hc27) k) ?_
          show own_Go _ _ _ _ T22 (mkF m 123 #[.val (.long q_1), .second, .val (.long q_2), .second, .val (.long q_3), .second, .val (.long q_4), .second, .val (.int p_5), .val (.long q_3), .second, .val (.long q_4), .second, .val (.ref b3), .val (.ref b11), .val (.int r23), .val (.long v24), .second, .val (.long v25), .second, .unset] [])
          refine own_go (fun _ k => XS.iconst X22.here hx rfl (hb hby at_123) k) ?_
          show own_Go _ _ _ _ T22 (mkF m 124 #[.val (.long q_1), .second, .val (.long q_2), .second, .val (.long q_3), .second, .val (.long q_4), .second, .val (.int p_5), .val (.long q_3), .second, .val (.long q_4), .second, .val (.ref b3), .val (.ref b11), .val (.int r23), .val (.long v24), .second, .val (.long v25), .second, .unset] [(.int (1 : Int32))])
          refine own_go (fun _ k => XS.goto X22.here hx rfl (pc0 := 124) (pc' := 128) rfl (hb hby at_124) (by decide) (by decide) k) ?_
          show own_Go _ _ _ _ T22 (mkF m 128 #[.val (.long q_1), .second, .val (.long q_2), .second, .val (.long q_3), .second, .val (.long q_4), .second, .val (.int p_5), .val (.long q_3), .second, .val (.long q_4), .second, .val (.ref b3), .val (.ref b11), .val (.int r23), .val (.long v24), .second, .val (.long v25), .second, .unset] [(.int (1 : Int32))])
          refine own_go (fun _ k => XS.istore X22.here hx rfl (hb hby at_128) rfl (l' := #[.val (.long q_1), .second, .val (.long q_2), .second, .val (.long q_3), .second, .val (.long q_4), .second, .val (.int p_5), .val (.long q_3), .second, .val (.long q_4), .second, .val (.ref b3), .val (.ref b11), .val (.int r23), .val (.long v24), .second, .val (.long v25), .second, .val (.int (1 : Int32))]) rfl k) ?_
          show own_Go _ _ _ _ T22 (mkF m 130 #[.val (.long q_1), .second, .val (.long q_2), .second, .val (.long q_3), .second, .val (.long q_4), .second, .val (.int p_5), .val (.long q_3), .second, .val (.long q_4), .second, .val (.ref b3), .val (.ref b11), .val (.int r23), .val (.long v24), .second, .val (.long v25), .second, .val (.int (1 : Int32))] [])
          refine own_go (fun _ k => XS.iload X22.here hx rfl (hb hby at_130) rfl k) ?_
          show own_Go _ _ _ _ T22 (mkF m 132 #[.val (.long q_1), .second, .val (.long q_2), .second, .val (.long q_3), .second, .val (.long q_4), .second, .val (.int p_5), .val (.long q_3), .second, .val (.long q_4), .second, .val (.ref b3), .val (.ref b11), .val (.int r23), .val (.long v24), .second, .val (.long v25), .second, .val (.int (1 : Int32))] [(.int r23)])
          refine own_go (fun _ k => XS.iload X22.here hx rfl (hb hby at_132) rfl k) ?_
          show own_Go _ _ _ _ T22 (mkF m 134 #[.val (.long q_1), .second, .val (.long q_2), .second, .val (.long q_3), .second, .val (.long q_4), .second, .val (.int p_5), .val (.long q_3), .second, .val (.long q_4), .second, .val (.ref b3), .val (.ref b11), .val (.int r23), .val (.long v24), .second, .val (.long v25), .second, .val (.int (1 : Int32))] [(.int (1 : Int32)), (.int r23)])
          have hc28 : r23 = (1 : Int32) := own_t0_0 q_1 q_2 q_3 q_4 r23 v24 v25 hr_r23 hdv24 hdv25 hc26 hc27
          refine own_go (fun _ k => XS.icmpNo X22.here hx rfl (hb hby at_134) rfl (Jvm.Free.XT.ii_ne_f hc28) k) ?_
          show own_Go _ _ _ _ T22 (mkF m 137 #[.val (.long q_1), .second, .val (.long q_2), .second, .val (.long q_3), .second, .val (.long q_4), .second, .val (.int p_5), .val (.long q_3), .second, .val (.long q_4), .second, .val (.ref b3), .val (.ref b11), .val (.int r23), .val (.long v24), .second, .val (.long v25), .second, .val (.int (1 : Int32))] [])
          refine own_go (fun _ k => XS.aload X22.here hx rfl (hb hby at_137) rfl rfl k) ?_
          show own_Go _ _ _ _ T22 (mkF m 139 #[.val (.long q_1), .second, .val (.long q_2), .second, .val (.long q_3), .second, .val (.long q_4), .second, .val (.int p_5), .val (.long q_3), .second, .val (.long q_4), .second, .val (.ref b3), .val (.ref b11), .val (.int r23), .val (.long v24), .second, .val (.long v25), .second, .val (.int (1 : Int32))] [(.ref b3)])
          refine own_go (fun _ k => XS.iconst X22.here hx rfl (hb hby at_139) k) ?_
          show own_Go _ _ _ _ T22 (mkF m 140 #[.val (.long q_1), .second, .val (.long q_2), .second, .val (.long q_3), .second, .val (.long q_4), .second, .val (.int p_5), .val (.long q_3), .second, .val (.long q_4), .second, .val (.ref b3), .val (.ref b11), .val (.int r23), .val (.long v24), .second, .val (.long v25), .second, .val (.int (1 : Int32))] [(.int (0 : Int32)), (.ref b3)])
          obtain ⟨q29, c29, R29, s29, t29⟩ := id f21
          have hin29 : ¬ ((0 : Int32) < 0 ∨ c29.slots.size ≤ ((0 : Int32)).toNatClampNeg) := inb_of s29 ⟨by decide, by decide⟩
          have u29 : c29.slots[((0 : Int32)).toNatClampNeg]? = some (.long q_3) := own_at (k := 0) t29 s29 hin29 (by decide) (rfl)
          refine own_go (fun _ k => X22.laload hx (j := (0 : Int32)) (v := (.long q_3)) (by rw [e22]; exact R29.1) (State.isArrayOf_alike hZ.alike R29.2.1) R29.2.2 hin29 u29 (g := (mkF m 140 #[.val (.long q_1), .second, .val (.long q_2), .second, .val (.long q_3), .second, .val (.long q_4), .second, .val (.int p_5), .val (.long q_3), .second, .val (.long q_4), .second, .val (.ref b3), .val (.ref b11), .val (.int r23), .val (.long v24), .second, .val (.long v25), .second, .val (.int (1 : Int32))] [(.int (0 : Int32)), (.ref b3)])) rfl rfl (hb hby at_140) _ k) ?_
          show own_Go _ _ _ _ T22 (mkF m 141 #[.val (.long q_1), .second, .val (.long q_2), .second, .val (.long q_3), .second, .val (.long q_4), .second, .val (.int p_5), .val (.long q_3), .second, .val (.long q_4), .second, .val (.ref b3), .val (.ref b11), .val (.int r23), .val (.long v24), .second, .val (.long v25), .second, .val (.int (1 : Int32))] [(.long q_3)])
          refine own_go (fun _ k => XS.lload X22.here hx rfl (hb hby at_141) rfl k) ?_
          show own_Go _ _ _ _ T22 (mkF m 143 #[.val (.long q_1), .second, .val (.long q_2), .second, .val (.long q_3), .second, .val (.long q_4), .second, .val (.int p_5), .val (.long q_3), .second, .val (.long q_4), .second, .val (.ref b3), .val (.ref b11), .val (.int r23), .val (.long v24), .second, .val (.long v25), .second, .val (.int (1 : Int32))] [(.long q_3), (.long q_3)])
          refine own_go (fun _ k => XS.lcmp X22.here hx rfl (hb hby at_143) rfl k) ?_
          show own_Go _ _ _ _ T22 (mkF m 144 #[.val (.long q_1), .second, .val (.long q_2), .second, .val (.long q_3), .second, .val (.long q_4), .second, .val (.int p_5), .val (.long q_3), .second, .val (.long q_4), .second, .val (.ref b3), .val (.ref b11), .val (.int r23), .val (.long v24), .second, .val (.long v25), .second, .val (.int (1 : Int32))] [(.int (lcmpW q_3 q_3))])
          have hc30 : q_3 = q_3 := rfl
          refine own_go (fun _ k => XS.ifNo X22.here hx rfl (hb hby at_144) rfl (Jvm.Free.XT.ll_ne_f hc30) k) ?_
          show own_Go _ _ _ _ T22 (mkF m 147 #[.val (.long q_1), .second, .val (.long q_2), .second, .val (.long q_3), .second, .val (.long q_4), .second, .val (.int p_5), .val (.long q_3), .second, .val (.long q_4), .second, .val (.ref b3), .val (.ref b11), .val (.int r23), .val (.long v24), .second, .val (.long v25), .second, .val (.int (1 : Int32))] [])
          refine own_go (fun _ k => XS.aload X22.here hx rfl (hb hby at_147) rfl rfl k) ?_
          show own_Go _ _ _ _ T22 (mkF m 149 #[.val (.long q_1), .second, .val (.long q_2), .second, .val (.long q_3), .second, .val (.long q_4), .second, .val (.int p_5), .val (.long q_3), .second, .val (.long q_4), .second, .val (.ref b3), .val (.ref b11), .val (.int r23), .val (.long v24), .second, .val (.long v25), .second, .val (.int (1 : Int32))] [(.ref b3)])
          refine own_go (fun _ k => XS.iconst X22.here hx rfl (hb hby at_149) k) ?_
          show own_Go _ _ _ _ T22 (mkF m 150 #[.val (.long q_1), .second, .val (.long q_2), .second, .val (.long q_3), .second, .val (.long q_4), .second, .val (.int p_5), .val (.long q_3), .second, .val (.long q_4), .second, .val (.ref b3), .val (.ref b11), .val (.int r23), .val (.long v24), .second, .val (.long v25), .second, .val (.int (1 : Int32))] [(.int (1 : Int32)), (.ref b3)])
          obtain ⟨q31, c31, R31, s31, t31⟩ := id f21
          have hin31 : ¬ ((1 : Int32) < 0 ∨ c31.slots.size ≤ ((1 : Int32)).toNatClampNeg) := inb_of s31 ⟨by decide, by decide⟩
          have u31 : c31.slots[((1 : Int32)).toNatClampNeg]? = some (.long q_4) := own_at (k := 1) t31 s31 hin31 (by decide) (rfl)
          refine own_go (fun _ k => X22.laload hx (j := (1 : Int32)) (v := (.long q_4)) (by rw [e22]; exact R31.1) (State.isArrayOf_alike hZ.alike R31.2.1) R31.2.2 hin31 u31 (g := (mkF m 150 #[.val (.long q_1), .second, .val (.long q_2), .second, .val (.long q_3), .second, .val (.long q_4), .second, .val (.int p_5), .val (.long q_3), .second, .val (.long q_4), .second, .val (.ref b3), .val (.ref b11), .val (.int r23), .val (.long v24), .second, .val (.long v25), .second, .val (.int (1 : Int32))] [(.int (1 : Int32)), (.ref b3)])) rfl rfl (hb hby at_150) _ k) ?_
          show own_Go _ _ _ _ T22 (mkF m 151 #[.val (.long q_1), .second, .val (.long q_2), .second, .val (.long q_3), .second, .val (.long q_4), .second, .val (.int p_5), .val (.long q_3), .second, .val (.long q_4), .second, .val (.ref b3), .val (.ref b11), .val (.int r23), .val (.long v24), .second, .val (.long v25), .second, .val (.int (1 : Int32))] [(.long q_4)])
          refine own_go (fun _ k => XS.lload X22.here hx rfl (hb hby at_151) rfl k) ?_
          show own_Go _ _ _ _ T22 (mkF m 153 #[.val (.long q_1), .second, .val (.long q_2), .second, .val (.long q_3), .second, .val (.long q_4), .second, .val (.int p_5), .val (.long q_3), .second, .val (.long q_4), .second, .val (.ref b3), .val (.ref b11), .val (.int r23), .val (.long v24), .second, .val (.long v25), .second, .val (.int (1 : Int32))] [(.long q_4), (.long q_4)])
          refine own_go (fun _ k => XS.lcmp X22.here hx rfl (hb hby at_153) rfl k) ?_
          show own_Go _ _ _ _ T22 (mkF m 154 #[.val (.long q_1), .second, .val (.long q_2), .second, .val (.long q_3), .second, .val (.long q_4), .second, .val (.int p_5), .val (.long q_3), .second, .val (.long q_4), .second, .val (.ref b3), .val (.ref b11), .val (.int r23), .val (.long v24), .second, .val (.long v25), .second, .val (.int (1 : Int32))] [(.int (lcmpW q_4 q_4))])
          have hc32 : q_4 = q_4 := rfl
          refine own_go (fun _ k => XS.ifNo X22.here hx rfl (hb hby at_154) rfl (Jvm.Free.XT.ll_ne_f hc32) k) ?_
          show own_Go _ _ _ _ T22 (mkF m 157 #[.val (.long q_1), .second, .val (.long q_2), .second, .val (.long q_3), .second, .val (.long q_4), .second, .val (.int p_5), .val (.long q_3), .second, .val (.long q_4), .second, .val (.ref b3), .val (.ref b11), .val (.int r23), .val (.long v24), .second, .val (.long v25), .second, .val (.int (1 : Int32))] [])
          refine own_go (fun _ k => XS.iconst X22.here hx rfl (hb hby at_157) k) ?_
          show own_Go _ _ _ _ T22 (mkF m 158 #[.val (.long q_1), .second, .val (.long q_2), .second, .val (.long q_3), .second, .val (.long q_4), .second, .val (.int p_5), .val (.long q_3), .second, .val (.long q_4), .second, .val (.ref b3), .val (.ref b11), .val (.int r23), .val (.long v24), .second, .val (.long v25), .second, .val (.int (1 : Int32))] [(.int (1 : Int32))])
          refine own_go (fun _ k => XS.goto X22.here hx rfl (pc0 := 158) (pc' := 162) rfl (hb hby at_158) (by decide) (by decide) k) ?_
          show own_Go _ _ _ _ T22 (mkF m 162 #[.val (.long q_1), .second, .val (.long q_2), .second, .val (.long q_3), .second, .val (.long q_4), .second, .val (.int p_5), .val (.long q_3), .second, .val (.long q_4), .second, .val (.ref b3), .val (.ref b11), .val (.int r23), .val (.long v24), .second, .val (.long v25), .second, .val (.int (1 : Int32))] [(.int (1 : Int32))])
          obtain ⟨fs, hr, hrun, hended, hW, hsame⟩ := X22.leave (v := some (.int (1 : Int32))) (fun h => by rw [Bd.returns] at h; cases h)
          refine ⟨_, _, retOut X22 hx Bd.returns rfl (Or.inl ⟨rfl, Or.inr (Or.inl rfl), _, rfl⟩) (hb hby at_162) hr, hrun, hended, _, _, rfl, ?_, ⟨_, rfl⟩, hW, hsame.mono (by rw [y22]; decide) (by rw [z22]; decide)⟩
          show own_Q0 Z q_1 q_2 q_3 q_4 p_5 h0 n0 _ T22.heap _
          rw [e22]
          exact ⟨rfl, N22⟩
        · refine own_go (fun _ k => XS.ifYes X22.here hx rfl (pc0 := 120) (pc' := 127) rfl (hb hby at_120) rfl (Jvm.Free.XT.ll_ne_t hc27) (by decide) (by decide) k) ?_
          show own_Go _ _ _ _ T22 (mkF m 127 #[.val (.long q_1), .second, .val (.long q_2), .second, .val (.long q_3), .second, .val (.long q_4), .second, .val (.int p_5), .val (.long q_3), .second, .val (.long q_4), .second, .val (.ref b3), .val (.ref b11), .val (.int r23), .val (.long v24), .second, .val (.long v25), .second, .unset] [])
          refine own_go (fun _ k => XS.iconst X22.here hx rfl (hb hby at_127) k) ?_
          show own_Go _ _ _ _ T22 (mkF m 128 #[.val (.long q_1), .second, .val (.long q_2), .second, .val (.long q_3), .second, .val (.long q_4), .second, .val (.int p_5), .val (.long q_3), .second, .val (.long q_4), .second, .val (.ref b3), .val (.ref b11), .val (.int r23), .val (.long v24), .second, .val (.long v25), .second, .unset] [(.int (0 : Int32))])
          refine own_go (fun _ k => XS.istore X22.here hx rfl (hb hby at_128) rfl (l' := #[.val (.long q_1), .second, .val (.long q_2), .second, .val (.long q_3), .second, .val (.long q_4), .second, .val (.int p_5), .val (.long q_3), .second, .val (.long q_4), .second, .val (.ref b3), .val (.ref b11), .val (.int r23), .val (.long v24), .second, .val (.long v25), .second, .val (.int (0 : Int32))]) rfl k) ?_
          show own_Go _ _ _ _ T22 (mkF m 130 #[.val (.long q_1), .second, .val (.long q_2), .second, .val (.long q_3), .second, .val (.long q_4), .second, .val (.int p_5), .val (.long q_3), .second, .val (.long q_4), .second, .val (.ref b3), .val (.ref b11), .val (.int r23), .val (.long v24), .second, .val (.long v25), .second, .val (.int (0 : Int32))] [])
          refine own_go (fun _ k => XS.iload X22.here hx rfl (hb hby at_130) rfl k) ?_
          show own_Go _ _ _ _ T22 (mkF m 132 #[.val (.long q_1), .second, .val (.long q_2), .second, .val (.long q_3), .second, .val (.long q_4), .second, .val (.int p_5), .val (.long q_3), .second, .val (.long q_4), .second, .val (.ref b3), .val (.ref b11), .val (.int r23), .val (.long v24), .second, .val (.long v25), .second, .val (.int (0 : Int32))] [(.int r23)])
          refine own_go (fun _ k => XS.iload X22.here hx rfl (hb hby at_132) rfl k) ?_
          show own_Go _ _ _ _ T22 (mkF m 134 #[.val (.long q_1), .second, .val (.long q_2), .second, .val (.long q_3), .second, .val (.long q_4), .second, .val (.int p_5), .val (.long q_3), .second, .val (.long q_4), .second, .val (.ref b3), .val (.ref b11), .val (.int r23), .val (.long v24), .second, .val (.long v25), .second, .val (.int (0 : Int32))] [(.int (0 : Int32)), (.int r23)])
          have hc34 : r23 = (0 : Int32) := own_t0_1 q_1 q_2 q_3 q_4 r23 v24 v25 hr_r23 hdv24 hdv25 hc26 hc27
          refine own_go (fun _ k => XS.icmpNo X22.here hx rfl (hb hby at_134) rfl (Jvm.Free.XT.ii_ne_f hc34) k) ?_
          show own_Go _ _ _ _ T22 (mkF m 137 #[.val (.long q_1), .second, .val (.long q_2), .second, .val (.long q_3), .second, .val (.long q_4), .second, .val (.int p_5), .val (.long q_3), .second, .val (.long q_4), .second, .val (.ref b3), .val (.ref b11), .val (.int r23), .val (.long v24), .second, .val (.long v25), .second, .val (.int (0 : Int32))] [])
          refine own_go (fun _ k => XS.aload X22.here hx rfl (hb hby at_137) rfl rfl k) ?_
          show own_Go _ _ _ _ T22 (mkF m 139 #[.val (.long q_1), .second, .val (.long q_2), .second, .val (.long q_3), .second, .val (.long q_4), .second, .val (.int p_5), .val (.long q_3), .second, .val (.long q_4), .second, .val (.ref b3), .val (.ref b11), .val (.int r23), .val (.long v24), .second, .val (.long v25), .second, .val (.int (0 : Int32))] [(.ref b3)])
          refine own_go (fun _ k => XS.iconst X22.here hx rfl (hb hby at_139) k) ?_
          show own_Go _ _ _ _ T22 (mkF m 140 #[.val (.long q_1), .second, .val (.long q_2), .second, .val (.long q_3), .second, .val (.long q_4), .second, .val (.int p_5), .val (.long q_3), .second, .val (.long q_4), .second, .val (.ref b3), .val (.ref b11), .val (.int r23), .val (.long v24), .second, .val (.long v25), .second, .val (.int (0 : Int32))] [(.int (0 : Int32)), (.ref b3)])
          obtain ⟨q35, c35, R35, s35, t35⟩ := id f21
          have hin35 : ¬ ((0 : Int32) < 0 ∨ c35.slots.size ≤ ((0 : Int32)).toNatClampNeg) := inb_of s35 ⟨by decide, by decide⟩
          have u35 : c35.slots[((0 : Int32)).toNatClampNeg]? = some (.long q_3) := own_at (k := 0) t35 s35 hin35 (by decide) (rfl)
          refine own_go (fun _ k => X22.laload hx (j := (0 : Int32)) (v := (.long q_3)) (by rw [e22]; exact R35.1) (State.isArrayOf_alike hZ.alike R35.2.1) R35.2.2 hin35 u35 (g := (mkF m 140 #[.val (.long q_1), .second, .val (.long q_2), .second, .val (.long q_3), .second, .val (.long q_4), .second, .val (.int p_5), .val (.long q_3), .second, .val (.long q_4), .second, .val (.ref b3), .val (.ref b11), .val (.int r23), .val (.long v24), .second, .val (.long v25), .second, .val (.int (0 : Int32))] [(.int (0 : Int32)), (.ref b3)])) rfl rfl (hb hby at_140) _ k) ?_
          show own_Go _ _ _ _ T22 (mkF m 141 #[.val (.long q_1), .second, .val (.long q_2), .second, .val (.long q_3), .second, .val (.long q_4), .second, .val (.int p_5), .val (.long q_3), .second, .val (.long q_4), .second, .val (.ref b3), .val (.ref b11), .val (.int r23), .val (.long v24), .second, .val (.long v25), .second, .val (.int (0 : Int32))] [(.long q_3)])
          refine own_go (fun _ k => XS.lload X22.here hx rfl (hb hby at_141) rfl k) ?_
          show own_Go _ _ _ _ T22 (mkF m 143 #[.val (.long q_1), .second, .val (.long q_2), .second, .val (.long q_3), .second, .val (.long q_4), .second, .val (.int p_5), .val (.long q_3), .second, .val (.long q_4), .second, .val (.ref b3), .val (.ref b11), .val (.int r23), .val (.long v24), .second, .val (.long v25), .second, .val (.int (0 : Int32))] [(.long q_3), (.long q_3)])
          refine own_go (fun _ k => XS.lcmp X22.here hx rfl (hb hby at_143) rfl k) ?_
          show own_Go _ _ _ _ T22 (mkF m 144 #[.val (.long q_1), .second, .val (.long q_2), .second, .val (.long q_3), .second, .val (.long q_4), .second, .val (.int p_5), .val (.long q_3), .second, .val (.long q_4), .second, .val (.ref b3), .val (.ref b11), .val (.int r23), .val (.long v24), .second, .val (.long v25), .second, .val (.int (0 : Int32))] [(.int (lcmpW q_3 q_3))])
          have hc36 : q_3 = q_3 := rfl
          refine own_go (fun _ k => XS.ifNo X22.here hx rfl (hb hby at_144) rfl (Jvm.Free.XT.ll_ne_f hc36) k) ?_
          show own_Go _ _ _ _ T22 (mkF m 147 #[.val (.long q_1), .second, .val (.long q_2), .second, .val (.long q_3), .second, .val (.long q_4), .second, .val (.int p_5), .val (.long q_3), .second, .val (.long q_4), .second, .val (.ref b3), .val (.ref b11), .val (.int r23), .val (.long v24), .second, .val (.long v25), .second, .val (.int (0 : Int32))] [])
          refine own_go (fun _ k => XS.aload X22.here hx rfl (hb hby at_147) rfl rfl k) ?_
          show own_Go _ _ _ _ T22 (mkF m 149 #[.val (.long q_1), .second, .val (.long q_2), .second, .val (.long q_3), .second, .val (.long q_4), .second, .val (.int p_5), .val (.long q_3), .second, .val (.long q_4), .second, .val (.ref b3), .val (.ref b11), .val (.int r23), .val (.long v24), .second, .val (.long v25), .second, .val (.int (0 : Int32))] [(.ref b3)])
          refine own_go (fun _ k => XS.iconst X22.here hx rfl (hb hby at_149) k) ?_
          show own_Go _ _ _ _ T22 (mkF m 150 #[.val (.long q_1), .second, .val (.long q_2), .second, .val (.long q_3), .second, .val (.long q_4), .second, .val (.int p_5), .val (.long q_3), .second, .val (.long q_4), .second, .val (.ref b3), .val (.ref b11), .val (.int r23), .val (.long v24), .second, .val (.long v25), .second, .val (.int (0 : Int32))] [(.int (1 : Int32)), (.ref b3)])
          obtain ⟨q37, c37, R37, s37, t37⟩ := id f21
          have hin37 : ¬ ((1 : Int32) < 0 ∨ c37.slots.size ≤ ((1 : Int32)).toNatClampNeg) := inb_of s37 ⟨by decide, by decide⟩
          have u37 : c37.slots[((1 : Int32)).toNatClampNeg]? = some (.long q_4) := own_at (k := 1) t37 s37 hin37 (by decide) (rfl)
          refine own_go (fun _ k => X22.laload hx (j := (1 : Int32)) (v := (.long q_4)) (by rw [e22]; exact R37.1) (State.isArrayOf_alike hZ.alike R37.2.1) R37.2.2 hin37 u37 (g := (mkF m 150 #[.val (.long q_1), .second, .val (.long q_2), .second, .val (.long q_3), .second, .val (.long q_4), .second, .val (.int p_5), .val (.long q_3), .second, .val (.long q_4), .second, .val (.ref b3), .val (.ref b11), .val (.int r23), .val (.long v24), .second, .val (.long v25), .second, .val (.int (0 : Int32))] [(.int (1 : Int32)), (.ref b3)])) rfl rfl (hb hby at_150) _ k) ?_
          show own_Go _ _ _ _ T22 (mkF m 151 #[.val (.long q_1), .second, .val (.long q_2), .second, .val (.long q_3), .second, .val (.long q_4), .second, .val (.int p_5), .val (.long q_3), .second, .val (.long q_4), .second, .val (.ref b3), .val (.ref b11), .val (.int r23), .val (.long v24), .second, .val (.long v25), .second, .val (.int (0 : Int32))] [(.long q_4)])
          refine own_go (fun _ k => XS.lload X22.here hx rfl (hb hby at_151) rfl k) ?_
          show own_Go _ _ _ _ T22 (mkF m 153 #[.val (.long q_1), .second, .val (.long q_2), .second, .val (.long q_3), .second, .val (.long q_4), .second, .val (.int p_5), .val (.long q_3), .second, .val (.long q_4), .second, .val (.ref b3), .val (.ref b11), .val (.int r23), .val (.long v24), .second, .val (.long v25), .second, .val (.int (0 : Int32))] [(.long q_4), (.long q_4)])
          refine own_go (fun _ k => XS.lcmp X22.here hx rfl (hb hby at_153) rfl k) ?_
          show own_Go _ _ _ _ T22 (mkF m 154 #[.val (.long q_1), .second, .val (.long q_2), .second, .val (.long q_3), .second, .val (.long q_4), .second, .val (.int p_5), .val (.long q_3), .second, .val (.long q_4), .second, .val (.ref b3), .val (.ref b11), .val (.int r23), .val (.long v24), .second, .val (.long v25), .second, .val (.int (0 : Int32))] [(.int (lcmpW q_4 q_4))])
          have hc38 : q_4 = q_4 := rfl
          refine own_go (fun _ k => XS.ifNo X22.here hx rfl (hb hby at_154) rfl (Jvm.Free.XT.ll_ne_f hc38) k) ?_
          show own_Go _ _ _ _ T22 (mkF m 157 #[.val (.long q_1), .second, .val (.long q_2), .second, .val (.long q_3), .second, .val (.long q_4), .second, .val (.int p_5), .val (.long q_3), .second, .val (.long q_4), .second, .val (.ref b3), .val (.ref b11), .val (.int r23), .val (.long v24), .second, .val (.long v25), .second, .val (.int (0 : Int32))] [])
          refine own_go (fun _ k => XS.iconst X22.here hx rfl (hb hby at_157) k) ?_
          show own_Go _ _ _ _ T22 (mkF m 158 #[.val (.long q_1), .second, .val (.long q_2), .second, .val (.long q_3), .second, .val (.long q_4), .second, .val (.int p_5), .val (.long q_3), .second, .val (.long q_4), .second, .val (.ref b3), .val (.ref b11), .val (.int r23), .val (.long v24), .second, .val (.long v25), .second, .val (.int (0 : Int32))] [(.int (1 : Int32))])
          refine own_go (fun _ k => XS.goto X22.here hx rfl (pc0 := 158) (pc' := 162) rfl (hb hby at_158) (by decide) (by decide) k) ?_
          show own_Go _ _ _ _ T22 (mkF m 162 #[.val (.long q_1), .second, .val (.long q_2), .second, .val (.long q_3), .second, .val (.long q_4), .second, .val (.int p_5), .val (.long q_3), .second, .val (.long q_4), .second, .val (.ref b3), .val (.ref b11), .val (.int r23), .val (.long v24), .second, .val (.long v25), .second, .val (.int (0 : Int32))] [(.int (1 : Int32))])
          obtain ⟨fs, hr, hrun, hended, hW, hsame⟩ := X22.leave (v := some (.int (1 : Int32))) (fun h => by rw [Bd.returns] at h; cases h)
          refine ⟨_, _, retOut X22 hx Bd.returns rfl (Or.inl ⟨rfl, Or.inr (Or.inl rfl), _, rfl⟩) (hb hby at_162) hr, hrun, hended, _, _, rfl, ?_, ⟨_, rfl⟩, hW, hsame.mono (by rw [y22]; decide) (by rw [z22]; decide)⟩
          show own_Q0 Z q_1 q_2 q_3 q_4 p_5 h0 n0 _ T22.heap _
          rw [e22]
          exact ⟨rfl, N22⟩
      · refine own_go (fun _ k => XS.ifYes X22.here hx rfl (pc0 := 106) (pc' := 127) rfl (hb hby at_106) rfl (Jvm.Free.XT.ll_ne_t hc26) (by decide) (by decide) k) ?_
        show own_Go _ _ _ _ T22 (mkF m 127 #[.val (.long q_1), .second, .val (.long q_2), .second, .val (.long q_3), .second, .val (.long q_4), .second, .val (.int p_5), .val (.long q_3), .second, .val (.long q_4), .second, .val (.ref b3), .val (.ref b11), .val (.int r23), .val (.long v24), .second, .val (.long v25), .second, .unset] [])
        refine own_go (fun _ k => XS.iconst X22.here hx rfl (hb hby at_127) k) ?_
        show own_Go _ _ _ _ T22 (mkF m 128 #[.val (.long q_1), .second, .val (.long q_2), .second, .val (.long q_3), .second, .val (.long q_4), .second, .val (.int p_5), .val (.long q_3), .second, .val (.long q_4), .second, .val (.ref b3), .val (.ref b11), .val (.int r23), .val (.long v24), .second, .val (.long v25), .second, .unset] [(.int (0 : Int32))])
        refine own_go (fun _ k => XS.istore X22.here hx rfl (hb hby at_128) rfl (l' := #[.val (.long q_1), .second, .val (.long q_2), .second, .val (.long q_3), .second, .val (.long q_4), .second, .val (.int p_5), .val (.long q_3), .second, .val (.long q_4), .second, .val (.ref b3), .val (.ref b11), .val (.int r23), .val (.long v24), .second, .val (.long v25), .second, .val (.int (0 : Int32))]) rfl k) ?_
        show own_Go _ _ _ _ T22 (mkF m 130 #[.val (.long q_1), .second, .val (.long q_2), .second, .val (.long q_3), .second, .val (.long q_4), .second, .val (.int p_5), .val (.long q_3), .second, .val (.long q_4), .second, .val (.ref b3), .val (.ref b11), .val (.int r23), .val (.long v24), .second, .val (.long v25), .second, .val (.int (0 : Int32))] [])
        refine own_go (fun _ k => XS.iload X22.here hx rfl (hb hby at_130) rfl k) ?_
        show own_Go _ _ _ _ T22 (mkF m 132 #[.val (.long q_1), .second, .val (.long q_2), .second, .val (.long q_3), .second, .val (.long q_4), .second, .val (.int p_5), .val (.long q_3), .second, .val (.long q_4), .second, .val (.ref b3), .val (.ref b11), .val (.int r23), .val (.long v24), .second, .val (.long v25), .second, .val (.int (0 : Int32))] [(.int r23)])
        refine own_go (fun _ k => XS.iload X22.here hx rfl (hb hby at_132) rfl k) ?_
        show own_Go _ _ _ _ T22 (mkF m 134 #[.val (.long q_1), .second, .val (.long q_2), .second, .val (.long q_3), .second, .val (.long q_4), .second, .val (.int p_5), .val (.long q_3), .second, .val (.long q_4), .second, .val (.ref b3), .val (.ref b11), .val (.int r23), .val (.long v24), .second, .val (.long v25), .second, .val (.int (0 : Int32))] [(.int (0 : Int32)), (.int r23)])
        have hc40 : r23 = (0 : Int32) := own_t0_2 q_1 q_2 q_3 q_4 r23 v24 v25 hr_r23 hdv24 hdv25 hc26
        refine own_go (fun _ k => XS.icmpNo X22.here hx rfl (hb hby at_134) rfl (Jvm.Free.XT.ii_ne_f hc40) k) ?_
        show own_Go _ _ _ _ T22 (mkF m 137 #[.val (.long q_1), .second, .val (.long q_2), .second, .val (.long q_3), .second, .val (.long q_4), .second, .val (.int p_5), .val (.long q_3), .second, .val (.long q_4), .second, .val (.ref b3), .val (.ref b11), .val (.int r23), .val (.long v24), .second, .val (.long v25), .second, .val (.int (0 : Int32))] [])
        refine own_go (fun _ k => XS.aload X22.here hx rfl (hb hby at_137) rfl rfl k) ?_
        show own_Go _ _ _ _ T22 (mkF m 139 #[.val (.long q_1), .second, .val (.long q_2), .second, .val (.long q_3), .second, .val (.long q_4), .second, .val (.int p_5), .val (.long q_3), .second, .val (.long q_4), .second, .val (.ref b3), .val (.ref b11), .val (.int r23), .val (.long v24), .second, .val (.long v25), .second, .val (.int (0 : Int32))] [(.ref b3)])
        refine own_go (fun _ k => XS.iconst X22.here hx rfl (hb hby at_139) k) ?_
        show own_Go _ _ _ _ T22 (mkF m 140 #[.val (.long q_1), .second, .val (.long q_2), .second, .val (.long q_3), .second, .val (.long q_4), .second, .val (.int p_5), .val (.long q_3), .second, .val (.long q_4), .second, .val (.ref b3), .val (.ref b11), .val (.int r23), .val (.long v24), .second, .val (.long v25), .second, .val (.int (0 : Int32))] [(.int (0 : Int32)), (.ref b3)])
        obtain ⟨q41, c41, R41, s41, t41⟩ := id f21
        have hin41 : ¬ ((0 : Int32) < 0 ∨ c41.slots.size ≤ ((0 : Int32)).toNatClampNeg) := inb_of s41 ⟨by decide, by decide⟩
        have u41 : c41.slots[((0 : Int32)).toNatClampNeg]? = some (.long q_3) := own_at (k := 0) t41 s41 hin41 (by decide) (rfl)
        refine own_go (fun _ k => X22.laload hx (j := (0 : Int32)) (v := (.long q_3)) (by rw [e22]; exact R41.1) (State.isArrayOf_alike hZ.alike R41.2.1) R41.2.2 hin41 u41 (g := (mkF m 140 #[.val (.long q_1), .second, .val (.long q_2), .second, .val (.long q_3), .second, .val (.long q_4), .second, .val (.int p_5), .val (.long q_3), .second, .val (.long q_4), .second, .val (.ref b3), .val (.ref b11), .val (.int r23), .val (.long v24), .second, .val (.long v25), .second, .val (.int (0 : Int32))] [(.int (0 : Int32)), (.ref b3)])) rfl rfl (hb hby at_140) _ k) ?_
        show own_Go _ _ _ _ T22 (mkF m 141 #[.val (.long q_1), .second, .val (.long q_2), .second, .val (.long q_3), .second, .val (.long q_4), .second, .val (.int p_5), .val (.long q_3), .second, .val (.long q_4), .second, .val (.ref b3), .val (.ref b11), .val (.int r23), .val (.long v24), .second, .val (.long v25), .second, .val (.int (0 : Int32))] [(.long q_3)])
        refine own_go (fun _ k => XS.lload X22.here hx rfl (hb hby at_141) rfl k) ?_
        show own_Go _ _ _ _ T22 (mkF m 143 #[.val (.long q_1), .second, .val (.long q_2), .second, .val (.long q_3), .second, .val (.long q_4), .second, .val (.int p_5), .val (.long q_3), .second, .val (.long q_4), .second, .val (.ref b3), .val (.ref b11), .val (.int r23), .val (.long v24), .second, .val (.long v25), .second, .val (.int (0 : Int32))] [(.long q_3), (.long q_3)])
        refine own_go (fun _ k => XS.lcmp X22.here hx rfl (hb hby at_143) rfl k) ?_
        show own_Go _ _ _ _ T22 (mkF m 144 #[.val (.long q_1), .second, .val (.long q_2), .second, .val (.long q_3), .second, .val (.long q_4), .second, .val (.int p_5), .val (.long q_3), .second, .val (.long q_4), .second, .val (.ref b3), .val (.ref b11), .val (.int r23), .val (.long v24), .second, .val (.long v25), .second, .val (.int (0 : Int32))] [(.int (lcmpW q_3 q_3))])
        have hc42 : q_3 = q_3 := rfl
        refine own_go (fun _ k => XS.ifNo X22.here hx rfl (hb hby at_144) rfl (Jvm.Free.XT.ll_ne_f hc42) k) ?_
        show own_Go _ _ _ _ T22 (mkF m 147 #[.val (.long q_1), .second, .val (.long q_2), .second, .val (.long q_3), .second, .val (.long q_4), .second, .val (.int p_5), .val (.long q_3), .second, .val (.long q_4), .second, .val (.ref b3), .val (.ref b11), .val (.int r23), .val (.long v24), .second, .val (.long v25), .second, .val (.int (0 : Int32))] [])
        refine own_go (fun _ k => XS.aload X22.here hx rfl (hb hby at_147) rfl rfl k) ?_
        show own_Go _ _ _ _ T22 (mkF m 149 #[.val (.long q_1), .second, .val (.long q_2), .second, .val (.long q_3), .second, .val (.long q_4), .second, .val (.int p_5), .val (.long q_3), .second, .val (.long q_4), .second, .val (.ref b3), .val (.ref b11), .val (.int r23), .val (.long v24), .second, .val (.long v25), .second, .val (.int (0 : Int32))] [(.ref b3)])
        refine own_go (fun _ k => XS.iconst X22.here hx rfl (hb hby at_149) k) ?_
        show own_Go _ _ _ _ T22 (mkF m 150 #[.val (.long q_1), .second, .val (.long q_2), .second, .val (.long q_3), .second, .val (.long q_4), .second, .val (.int p_5), .val (.long q_3), .second, .val (.long q_4), .second, .val (.ref b3), .val (.ref b11), .val (.int r23), .val (.long v24), .second, .val (.long v25), .second, .val (.int (0 : Int32))] [(.int (1 : Int32)), (.ref b3)])
        obtain ⟨q43, c43, R43, s43, t43⟩ := id f21
        have hin43 : ¬ ((1 : Int32) < 0 ∨ c43.slots.size ≤ ((1 : Int32)).toNatClampNeg) := inb_of s43 ⟨by decide, by decide⟩
        have u43 : c43.slots[((1 : Int32)).toNatClampNeg]? = some (.long q_4) := own_at (k := 1) t43 s43 hin43 (by decide) (rfl)
        refine own_go (fun _ k => X22.laload hx (j := (1 : Int32)) (v := (.long q_4)) (by rw [e22]; exact R43.1) (State.isArrayOf_alike hZ.alike R43.2.1) R43.2.2 hin43 u43 (g := (mkF m 150 #[.val (.long q_1), .second, .val (.long q_2), .second, .val (.long q_3), .second, .val (.long q_4), .second, .val (.int p_5), .val (.long q_3), .second, .val (.long q_4), .second, .val (.ref b3), .val (.ref b11), .val (.int r23), .val (.long v24), .second, .val (.long v25), .second, .val (.int (0 : Int32))] [(.int (1 : Int32)), (.ref b3)])) rfl rfl (hb hby at_150) _ k) ?_
        show own_Go _ _ _ _ T22 (mkF m 151 #[.val (.long q_1), .second, .val (.long q_2), .second, .val (.long q_3), .second, .val (.long q_4), .second, .val (.int p_5), .val (.long q_3), .second, .val (.long q_4), .second, .val (.ref b3), .val (.ref b11), .val (.int r23), .val (.long v24), .second, .val (.long v25), .second, .val (.int (0 : Int32))] [(.long q_4)])
        refine own_go (fun _ k => XS.lload X22.here hx rfl (hb hby at_151) rfl k) ?_
        show own_Go _ _ _ _ T22 (mkF m 153 #[.val (.long q_1), .second, .val (.long q_2), .second, .val (.long q_3), .second, .val (.long q_4), .second, .val (.int p_5), .val (.long q_3), .second, .val (.long q_4), .second, .val (.ref b3), .val (.ref b11), .val (.int r23), .val (.long v24), .second, .val (.long v25), .second, .val (.int (0 : Int32))] [(.long q_4), (.long q_4)])
        refine own_go (fun _ k => XS.lcmp X22.here hx rfl (hb hby at_153) rfl k) ?_
        show own_Go _ _ _ _ T22 (mkF m 154 #[.val (.long q_1), .second, .val (.long q_2), .second, .val (.long q_3), .second, .val (.long q_4), .second, .val (.int p_5), .val (.long q_3), .second, .val (.long q_4), .second, .val (.ref b3), .val (.ref b11), .val (.int r23), .val (.long v24), .second, .val (.long v25), .second, .val (.int (0 : Int32))] [(.int (lcmpW q_4 q_4))])
        have hc44 : q_4 = q_4 := rfl
        refine own_go (fun _ k => XS.ifNo X22.here hx rfl (hb hby at_154) rfl (Jvm.Free.XT.ll_ne_f hc44) k) ?_
        show own_Go _ _ _ _ T22 (mkF m 157 #[.val (.long q_1), .second, .val (.long q_2), .second, .val (.long q_3), .second, .val (.long q_4), .second, .val (.int p_5), .val (.long q_3), .second, .val (.long q_4), .second, .val (.ref b3), .val (.ref b11), .val (.int r23), .val (.long v24), .second, .val (.long v25), .second, .val (.int (0 : Int32))] [])
        refine own_go (fun _ k => XS.iconst X22.here hx rfl (hb hby at_157) k) ?_
        show own_Go _ _ _ _ T22 (mkF m 158 #[.val (.long q_1), .second, .val (.long q_2), .second, .val (.long q_3), .second, .val (.long q_4), .second, .val (.int p_5), .val (.long q_3), .second, .val (.long q_4), .second, .val (.ref b3), .val (.ref b11), .val (.int r23), .val (.long v24), .second, .val (.long v25), .second, .val (.int (0 : Int32))] [(.int (1 : Int32))])
        refine own_go (fun _ k => XS.goto X22.here hx rfl (pc0 := 158) (pc' := 162) rfl (hb hby at_158) (by decide) (by decide) k) ?_
        show own_Go _ _ _ _ T22 (mkF m 162 #[.val (.long q_1), .second, .val (.long q_2), .second, .val (.long q_3), .second, .val (.long q_4), .second, .val (.int p_5), .val (.long q_3), .second, .val (.long q_4), .second, .val (.ref b3), .val (.ref b11), .val (.int r23), .val (.long v24), .second, .val (.long v25), .second, .val (.int (0 : Int32))] [(.int (1 : Int32))])
        obtain ⟨fs, hr, hrun, hended, hW, hsame⟩ := X22.leave (v := some (.int (1 : Int32))) (fun h => by rw [Bd.returns] at h; cases h)
        refine ⟨_, _, retOut X22 hx Bd.returns rfl (Or.inl ⟨rfl, Or.inr (Or.inl rfl), _, rfl⟩) (hb hby at_162) hr, hrun, hended, _, _, rfl, ?_, ⟨_, rfl⟩, hW, hsame.mono (by rw [y22]; decide) (by rw [z22]; decide)⟩
        show own_Q0 Z q_1 q_2 q_3 q_4 p_5 h0 n0 _ T22.heap _
        rw [e22]
        exact ⟨rfl, N22⟩
    · refine own_go (fun _ k => XS.ifNo X0.here hx rfl (hb hby at_24) rfl (Jvm.Free.XT.i0_eq_f hc2) k) ?_
      show own_Go _ _ _ _ s₁ (mkF m 27 #[.val (.long q_1), .second, .val (.long q_2), .second, .val (.long q_3), .second, .val (.long q_4), .second, .val (.int p_5), .val (.long q_3), .second, .unset, .unset, .unset, .unset, .unset, .unset, .unset, .unset, .unset, .unset] [])
      refine own_go (fun _ k => XS.lload X0.here hx rfl (hb hby at_27) rfl k) ?_
      show own_Go _ _ _ _ s₁ (mkF m 29 #[.val (.long q_1), .second, .val (.long q_2), .second, .val (.long q_3), .second, .val (.long q_4), .second, .val (.int p_5), .val (.long q_3), .second, .unset, .unset, .unset, .unset, .unset, .unset, .unset, .unset, .unset, .unset] [(.long q_4)])
      refine own_go (fun _ k => XS.lloadN X0.here hx rfl (hb hby at_29) rfl k) ?_
      show own_Go _ _ _ _ s₁ (mkF m 30 #[.val (.long q_1), .second, .val (.long q_2), .second, .val (.long q_3), .second, .val (.long q_4), .second, .val (.int p_5), .val (.long q_3), .second, .unset, .unset, .unset, .unset, .unset, .unset, .unset, .unset, .unset, .unset] [(.long q_1), (.long q_4)])
      refine own_go (fun _ k => XS.land X0.here hx rfl (hb hby at_30) rfl k) ?_
      show own_Go _ _ _ _ s₁ (mkF m 31 #[.val (.long q_1), .second, .val (.long q_2), .second, .val (.long q_3), .second, .val (.long q_4), .second, .val (.int p_5), .val (.long q_3), .second, .unset, .unset, .unset, .unset, .unset, .unset, .unset, .unset, .unset, .unset] [(.long (q_4 &&& q_1))])
      refine own_go (fun _ k => XS.lloadN X0.here hx rfl (hb hby at_31) rfl k) ?_
      show own_Go _ _ _ _ s₁ (mkF m 32 #[.val (.long q_1), .second, .val (.long q_2), .second, .val (.long q_3), .second, .val (.long q_4), .second, .val (.int p_5), .val (.long q_3), .second, .unset, .unset, .unset, .unset, .unset, .unset, .unset, .unset, .unset, .unset] [(.long q_2), (.long (q_4 &&& q_1))])
      refine own_go (fun _ k => X0.ldc2Long hx hown (mvT hZ (hw _ (List.mem_of_getElem? (i := 0) rfl))) (g := (mkF m 32 #[.val (.long q_1), .second, .val (.long q_2), .second, .val (.long q_3), .second, .val (.long q_4), .second, .val (.int p_5), .val (.long q_3), .second, .unset, .unset, .unset, .unset, .unset, .unset, .unset, .unset, .unset, .unset] [(.long q_2), (.long (q_4 &&& q_1))])) rfl (hb hby at_32) _ k) ?_
      show own_Go _ _ _ _ s₁ (mkF m 35 #[.val (.long q_1), .second, .val (.long q_2), .second, .val (.long q_3), .second, .val (.long q_4), .second, .val (.int p_5), .val (.long q_3), .second, .unset, .unset, .unset, .unset, .unset, .unset, .unset, .unset, .unset, .unset] [(.long (-1 : Int64)), (.long q_2), (.long (q_4 &&& q_1))])
      refine own_go (fun _ k => XS.lxor X0.here hx rfl (hb hby at_35) rfl k) ?_
      show own_Go _ _ _ _ s₁ (mkF m 36 #[.val (.long q_1), .second, .val (.long q_2), .second, .val (.long q_3), .second, .val (.long q_4), .second, .val (.int p_5), .val (.long q_3), .second, .unset, .unset, .unset, .unset, .unset, .unset, .unset, .unset, .unset, .unset] [(.long (q_2 ^^^ (-1 : Int64))), (.long (q_4 &&& q_1))])
      refine own_go (fun _ k => XS.land X0.here hx rfl (hb hby at_36) rfl k) ?_
      show own_Go _ _ _ _ s₁ (mkF m 37 #[.val (.long q_1), .second, .val (.long q_2), .second, .val (.long q_3), .second, .val (.long q_4), .second, .val (.int p_5), .val (.long q_3), .second, .unset, .unset, .unset, .unset, .unset, .unset, .unset, .unset, .unset, .unset] [(.long ((q_4 &&& q_1) &&& (q_2 ^^^ (-1 : Int64))))])
      refine own_go (fun _ k => XS.goto X0.here hx rfl (pc0 := 37) (pc' := 42) rfl (hb hby at_37) (by decide) (by decide) k) ?_
      show own_Go _ _ _ _ s₁ (mkF m 42 #[.val (.long q_1), .second, .val (.long q_2), .second, .val (.long q_3), .second, .val (.long q_4), .second, .val (.int p_5), .val (.long q_3), .second, .unset, .unset, .unset, .unset, .unset, .unset, .unset, .unset, .unset, .unset] [(.long ((q_4 &&& q_1) &&& (q_2 ^^^ (-1 : Int64))))])
      refine own_go (fun _ k => XS.lstore X0.here hx rfl (hb hby at_42) rfl (l' := #[.val (.long q_1), .second, .val (.long q_2), .second, .val (.long q_3), .second, .val (.long q_4), .second, .val (.int p_5), .val (.long q_3), .second, .val (.long ((q_4 &&& q_1) &&& (q_2 ^^^ (-1 : Int64)))), .second, .unset, .unset, .unset, .unset, .unset, .unset, .unset, .unset]) rfl k) ?_
      show own_Go _ _ _ _ s₁ (mkF m 44 #[.val (.long q_1), .second, .val (.long q_2), .second, .val (.long q_3), .second, .val (.long q_4), .second, .val (.int p_5), .val (.long q_3), .second, .val (.long ((q_4 &&& q_1) &&& (q_2 ^^^ (-1 : Int64)))), .second, .unset, .unset, .unset, .unset, .unset, .unset, .unset, .unset] [])
      generalize hdv46 : ((q_4 &&& q_1) &&& (q_2 ^^^ (-1 : Int64))) = v46
      show own_Go _ _ _ _ s₁ (mkF m 44 #[.val (.long q_1), .second, .val (.long q_2), .second, .val (.long q_3), .second, .val (.long q_4), .second, .val (.int p_5), .val (.long q_3), .second, .val (.long v46), .second, .unset, .unset, .unset, .unset, .unset, .unset, .unset, .unset] [])
      refine own_go (fun _ k => XS.iconst X0.here hx rfl (hb hby at_44) k) ?_
      show own_Go _ _ _ _ s₁ (mkF m 45 #[.val (.long q_1), .second, .val (.long q_2), .second, .val (.long q_3), .second, .val (.long q_4), .second, .val (.int p_5), .val (.long q_3), .second, .val (.long v46), .second, .unset, .unset, .unset, .unset, .unset, .unset, .unset, .unset] [(.int (2 : Int32))])
      obtain ⟨T47, h47, k47, X47, e47, E47, A47, st47⟩ := newP X0 hx hZ (hw _ (List.mem_of_getElem? (i := 1) rfl)) e0 (g := (mkF m 45 #[.val (.long q_1), .second, .val (.long q_2), .second, .val (.long q_3), .second, .val (.long q_4), .second, .val (.int p_5), .val (.long q_3), .second, .val (.long v46), .second, .unset, .unset, .unset, .unset, .unset, .unset, .unset, .unset] [(.int (2 : Int32))])) rfl (hb hby at_45) rfl (by decide) (cap := 2) (by decide) (by decide) (by decide) (by decide)
      obtain ⟨b47, g47⟩ : ∃ z, z = h0.size := ⟨_, rfl⟩
      rw [← g47] at A47 st47
      have z48 := E47.1
      have lt_b47 := own_lt A47.lt
      have V_b47 : own_AV Z h47 b47 .long (2 : Int32) (fun _ => (.long (0 : Int64))) := own_AV.new A47 (by decide)
      refine own_go (fun _ k => st47 _ k) ?_
      show own_Go _ _ _ _ T47 (mkF m 47 #[.val (.long q_1), .second, .val (.long q_2), .second, .val (.long q_3), .second, .val (.long q_4), .second, .val (.int p_5), .val (.long q_3), .second, .val (.long v46), .second, .unset, .unset, .unset, .unset, .unset, .unset, .unset, .unset] [(.ref b47)])
      refine own_go (fun _ k => XS.astore X47.here hx rfl (hb hby at_47) rfl rfl (l' := #[.val (.long q_1), .second, .val (.long q_2), .second, .val (.long q_3), .second, .val (.long q_4), .second, .val (.int p_5), .val (.long q_3), .second, .val (.long v46), .second, .val (.ref b47), .unset, .unset, .unset, .unset, .unset, .unset, .unset]) rfl k) ?_
      show own_Go _ _ _ _ T47 (mkF m 49 #[.val (.long q_1), .second, .val (.long q_2), .second, .val (.long q_3), .second, .val (.long q_4), .second, .val (.int p_5), .val (.long q_3), .second, .val (.long v46), .second, .val (.ref b47), .unset, .unset, .unset, .unset, .unset, .unset, .unset] [])
      refine own_go (fun _ k => XS.aload X47.here hx rfl (hb hby at_49) rfl rfl k) ?_
      show own_Go _ _ _ _ T47 (mkF m 51 #[.val (.long q_1), .second, .val (.long q_2), .second, .val (.long q_3), .second, .val (.long q_4), .second, .val (.int p_5), .val (.long q_3), .second, .val (.long v46), .second, .val (.ref b47), .unset, .unset, .unset, .unset, .unset, .unset, .unset] [(.ref b47)])
      refine own_go (fun _ k => XS.iconst X47.here hx rfl (hb hby at_51) k) ?_
      show own_Go _ _ _ _ T47 (mkF m 52 #[.val (.long q_1), .second, .val (.long q_2), .second, .val (.long q_3), .second, .val (.long q_4), .second, .val (.int p_5), .val (.long q_3), .second, .val (.long v46), .second, .val (.ref b47), .unset, .unset, .unset, .unset, .unset, .unset, .unset] [(.int (0 : Int32)), (.ref b47)])
      refine own_go (fun _ k => XS.lload X47.here hx rfl (hb hby at_52) rfl k) ?_
      show own_Go _ _ _ _ T47 (mkF m 54 #[.val (.long q_1), .second, .val (.long q_2), .second, .val (.long q_3), .second, .val (.long q_4), .second, .val (.int p_5), .val (.long q_3), .second, .val (.long v46), .second, .val (.ref b47), .unset, .unset, .unset, .unset, .unset, .unset, .unset] [(.long q_3), (.int (0 : Int32)), (.ref b47)])
      obtain ⟨q49, c49, R49, s49, t49⟩ := id V_b47
      have hin49 : ¬ ((0 : Int32) < 0 ∨ c49.slots.size ≤ ((0 : Int32)).toNatClampNeg) := inb_of s49 ⟨by decide, by decide⟩
      obtain ⟨T50, h50, X50, e50, W50, st50⟩ := stJ X47 hx hZ e47 R49 (j := (0 : Int32)) hin49 (g := (mkF m 54 #[.val (.long q_1), .second, .val (.long q_2), .second, .val (.long q_3), .second, .val (.long q_4), .second, .val (.int p_5), .val (.long q_3), .second, .val (.long v46), .second, .val (.ref b47), .unset, .unset, .unset, .unset, .unset, .unset, .unset] [(.long q_3), (.int (0 : Int32)), (.ref b47)])) rfl rfl (hb hby at_54)
      have V50 : own_AV Z h50 b47 .long (2 : Int32) (own_upd (fun _ => (.long (0 : Int64))) 0 (.long q_3)) := own_AV.set (k := 0) V_b47 W50 (by decide)
      have z51 := W50.size
      have N50 := Fr.snoc X50 N0 (by omega : n0 ≤ b47)
      refine own_go (fun _ k => st50 _ k) ?_
      show own_Go _ _ _ _ T50 (mkF m 55 #[.val (.long q_1), .second, .val (.long q_2), .second, .val (.long q_3), .second, .val (.long q_4), .second, .val (.int p_5), .val (.long q_3), .second, .val (.long v46), .second, .val (.ref b47), .unset, .unset, .unset, .unset, .unset, .unset, .unset] [])
      refine own_go (fun _ k => XS.aload X50.here hx rfl (hb hby at_55) rfl rfl k) ?_
      show own_Go _ _ _ _ T50 (mkF m 57 #[.val (.long q_1), .second, .val (.long q_2), .second, .val (.long q_3), .second, .val (.long q_4), .second, .val (.int p_5), .val (.long q_3), .second, .val (.long v46), .second, .val (.ref b47), .unset, .unset, .unset, .unset, .unset, .unset, .unset] [(.ref b47)])
      refine own_go (fun _ k => XS.iconst X50.here hx rfl (hb hby at_57) k) ?_
      show own_Go _ _ _ _ T50 (mkF m 58 #[.val (.long q_1), .second, .val (.long q_2), .second, .val (.long q_3), .second, .val (.long q_4), .second, .val (.int p_5), .val (.long q_3), .second, .val (.long v46), .second, .val (.ref b47), .unset, .unset, .unset, .unset, .unset, .unset, .unset] [(.int (1 : Int32)), (.ref b47)])
      refine own_go (fun _ k => XS.lload X50.here hx rfl (hb hby at_58) rfl k) ?_
      show own_Go _ _ _ _ T50 (mkF m 60 #[.val (.long q_1), .second, .val (.long q_2), .second, .val (.long q_3), .second, .val (.long q_4), .second, .val (.int p_5), .val (.long q_3), .second, .val (.long v46), .second, .val (.ref b47), .unset, .unset, .unset, .unset, .unset, .unset, .unset] [(.long v46), (.int (1 : Int32)), (.ref b47)])
      obtain ⟨q52, c52, R52, s52, t52⟩ := id V50
      have hin52 : ¬ ((1 : Int32) < 0 ∨ c52.slots.size ≤ ((1 : Int32)).toNatClampNeg) := inb_of s52 ⟨by decide, by decide⟩
      obtain ⟨T53, h53, X53, e53, W53, st53⟩ := stJ X50 hx hZ e50 R52 (j := (1 : Int32)) hin52 (g := (mkF m 60 #[.val (.long q_1), .second, .val (.long q_2), .second, .val (.long q_3), .second, .val (.long q_4), .second, .val (.int p_5), .val (.long q_3), .second, .val (.long v46), .second, .val (.ref b47), .unset, .unset, .unset, .unset, .unset, .unset, .unset] [(.long v46), (.int (1 : Int32)), (.ref b47)])) rfl rfl (hb hby at_60)
      have V53 : own_AV Z h53 b47 .long (2 : Int32) (own_upd (own_upd (fun _ => (.long (0 : Int64))) 0 (.long q_3)) 1 (.long v46)) := own_AV.set (k := 1) V50 W53 (by decide)
      have z54 := W53.size
      have N53 := Fr.snoc X53 N50 (by omega : n0 ≤ b47)
      refine own_go (fun _ k => st53 _ k) ?_
      show own_Go _ _ _ _ T53 (mkF m 61 #[.val (.long q_1), .second, .val (.long q_2), .second, .val (.long q_3), .second, .val (.long q_4), .second, .val (.int p_5), .val (.long q_3), .second, .val (.long v46), .second, .val (.ref b47), .unset, .unset, .unset, .unset, .unset, .unset, .unset] [])
      obtain ⟨T55, h55, X55, e55, E55, A55, D55, Y55, st55⟩ := newO X53 hx hZ hown (hw _ (List.mem_of_getElem? (i := 2) rfl)) (hw _ (List.mem_of_getElem? (i := 3) rfl)) (hw _ (List.mem_of_getElem? (i := 4) rfl)) e53 (g := (mkF m 61 #[.val (.long q_1), .second, .val (.long q_2), .second, .val (.long q_3), .second, .val (.long q_4), .second, .val (.int p_5), .val (.long q_3), .second, .val (.long v46), .second, .val (.ref b47), .unset, .unset, .unset, .unset, .unset, .unset, .unset] [])) rfl (hb hby at_61) (by decide) (by decide)
      obtain ⟨b55, g55⟩ : ∃ z, z = h53.size := ⟨_, rfl⟩
      rw [← g55] at A55 D55 Y55 st55
      have z56 := E55.1
      have lt_b55 := own_lt A55.lt
      have F_observed_b55 : Fld Z h55 b55 "com/example/epsilonet/epsilonet/service/ObservationTree$Outcome" "observed" "J" (.long (0 : Int64)) := D55 (Or.inr (hw _ (List.mem_of_getElem? (i := 17) rfl))) (ty := .long) (by decide)
      have F_values_b55 : Fld Z h55 b55 "com/example/epsilonet/epsilonet/service/ObservationTree$Outcome" "values" "J" (.long (0 : Int64)) := D55 (Or.inr (hw _ (List.mem_of_getElem? (i := 19) rfl))) (ty := .long) (by decide)
      refine own_go (fun _ k => st55 _ k) ?_
      show own_Go _ _ _ _ T55 (mkF m 64 #[.val (.long q_1), .second, .val (.long q_2), .second, .val (.long q_3), .second, .val (.long q_4), .second, .val (.int p_5), .val (.long q_3), .second, .val (.long v46), .second, .val (.ref b47), .unset, .unset, .unset, .unset, .unset, .unset, .unset] [(.ref b55)])
      refine own_go (fun _ k => XS.dup X55.here hx rfl (hb hby at_64) rfl rfl k) ?_
      show own_Go _ _ _ _ T55 (mkF m 65 #[.val (.long q_1), .second, .val (.long q_2), .second, .val (.long q_3), .second, .val (.long q_4), .second, .val (.int p_5), .val (.long q_3), .second, .val (.long v46), .second, .val (.ref b47), .unset, .unset, .unset, .unset, .unset, .unset, .unset] [(.ref b55), (.ref b55)])
      refine own_go (fun _ k => XS.lloadN X55.here hx rfl (hb hby at_65) rfl k) ?_
      show own_Go _ _ _ _ T55 (mkF m 66 #[.val (.long q_1), .second, .val (.long q_2), .second, .val (.long q_3), .second, .val (.long q_4), .second, .val (.int p_5), .val (.long q_3), .second, .val (.long v46), .second, .val (.ref b47), .unset, .unset, .unset, .unset, .unset, .unset, .unset] [(.long q_1), (.ref b55), (.ref b55)])
      refine own_go (fun _ k => XS.lloadN X55.here hx rfl (hb hby at_66) rfl k) ?_
      show own_Go _ _ _ _ T55 (mkF m 67 #[.val (.long q_1), .second, .val (.long q_2), .second, .val (.long q_3), .second, .val (.long q_4), .second, .val (.int p_5), .val (.long q_3), .second, .val (.long v46), .second, .val (.ref b47), .unset, .unset, .unset, .unset, .unset, .unset, .unset] [(.long q_2), (.long q_1), (.ref b55), (.ref b55)])
      obtain ⟨_, _, ⟨T57, L57, k57, n57⟩, -, X57, ⟨Lc57, hQ57, l57, y57, z57⟩, st57⟩ := X55.specialBack hx (y := (⟨"com/example/epsilonet/epsilonet/service/ObservationTree$Outcome", "<init>", "(JJ)V"⟩ : MethodName)) rfl hown (mvT hZ (hw _ (List.mem_of_getElem? (i := 5) rfl))) (mvT hZ (hw _ (List.mem_of_getElem? (i := 6) rfl))) (mvT hZ (hw _ (List.mem_of_getElem? (i := 7) rfl))) (by decide) (backOf (W := 1) (own_rm1 l Z a0 hw [] b55 q_1 q_2 (0 : Int64) (0 : Int64) h55 n0 (by omega) A55 F_observed_b55 F_values_b55 (by omega)) hZ (hw _ (List.mem_of_getElem? (i := 7) rfl)) (hw _ (List.mem_of_getElem? (i := 4) rfl)) (by decide) (by decide)) (g := (mkF m 67 #[.val (.long q_1), .second, .val (.long q_2), .second, .val (.long q_3), .second, .val (.long q_4), .second, .val (.int p_5), .val (.long q_3), .second, .val (.long v46), .second, .val (.ref b47), .unset, .unset, .unset, .unset, .unset, .unset, .unset] [(.long q_2), (.long q_1), (.ref b55), (.ref b55)])) rfl (by rw [hml]; rfl) (Steps.refl _) (a := b55) (argsL := [(.long q_1), (.long q_2)]) (rest := [(.ref b55)]) (lenOf own_pd1 rfl) rfl (by show 2 * 0 + _ ≤ _; exact Nat.le_of_eq rfl) (hb hby at_67) (fun _ _ => ⟨rfl, e55, (by decide : 2 + 0 ≤ _), (by decide : 4 + 0 ≤ _)⟩)
      dsimp only [Pt.U, Pt.locs, Pt.cells, Pt.slots] at X57 l57 y57 z57 st57 hQ57
      have y57 : k57 = 2 := y57
      have z57 : n57 = 4 := z57
      obtain ⟨rfl, N57q, K57q, f58, f59, f60⟩ := hQ57
      have N57 : Fr n0 L57 := by rw [l57]; exact Fr.app N53 N57q
      have z61 := K57q.1
      have z62 := own_lt f58.lt
      have z63 := own_lt f59.lt
      have z64 := own_lt f60.lt
      refine own_go (fun _ k => st57.trans k) ?_
      show own_Go _ _ _ _ T57 (mkF m 70 #[.val (.long q_1), .second, .val (.long q_2), .second, .val (.long q_3), .second, .val (.long q_4), .second, .val (.int p_5), .val (.long q_3), .second, .val (.long v46), .second, .val (.ref b47), .unset, .unset, .unset, .unset, .unset, .unset, .unset] [(.ref b55)])
      refine own_go (fun _ k => XS.astore X57.here hx rfl (hb hby at_70) rfl rfl (l' := #[.val (.long q_1), .second, .val (.long q_2), .second, .val (.long q_3), .second, .val (.long q_4), .second, .val (.int p_5), .val (.long q_3), .second, .val (.long v46), .second, .val (.ref b47), .val (.ref b55), .unset, .unset, .unset, .unset, .unset, .unset]) rfl k) ?_
      show own_Go _ _ _ _ T57 (mkF m 72 #[.val (.long q_1), .second, .val (.long q_2), .second, .val (.long q_3), .second, .val (.long q_4), .second, .val (.int p_5), .val (.long q_3), .second, .val (.long v46), .second, .val (.ref b47), .val (.ref b55), .unset, .unset, .unset, .unset, .unset, .unset] [])
      refine own_go (fun _ k => XS.aload X57.here hx rfl (hb hby at_72) rfl rfl k) ?_
      show own_Go _ _ _ _ T57 (mkF m 74 #[.val (.long q_1), .second, .val (.long q_2), .second, .val (.long q_3), .second, .val (.long q_4), .second, .val (.int p_5), .val (.long q_3), .second, .val (.long v46), .second, .val (.ref b47), .val (.ref b55), .unset, .unset, .unset, .unset, .unset, .unset] [(.ref b55)])
      refine own_go (fun _ k => XS.aload X57.here hx rfl (hb hby at_74) rfl rfl k) ?_
      show own_Go _ _ _ _ T57 (mkF m 76 #[.val (.long q_1), .second, .val (.long q_2), .second, .val (.long q_3), .second, .val (.long q_4), .second, .val (.int p_5), .val (.long q_3), .second, .val (.long v46), .second, .val (.ref b47), .val (.ref b55), .unset, .unset, .unset, .unset, .unset, .unset] [(.ref b47), (.ref b55)])
      have f65 : own_AV Z T57.heap b47 .long (2 : Int32) (own_upd (own_upd (fun _ => (.long (0 : Int64))) 0 (.long q_3)) 1 (.long v46)) := ((V53.ext E55).keep K57q (ninS (own_ne (by omega)) nin0))
      obtain ⟨cq66, kq66, q66a, q66b, q66c⟩ := isOf hZ rfl f58
      obtain ⟨_, _, ⟨T66, L66, k66, n66⟩, -, X66, ⟨Lc66, hQ66, l66, y66, z66⟩, st66⟩ := X57.virtualBack hx (y := (⟨"com/example/epsilonet/epsilonet/service/ObservationTree$Outcome", "makesHold", "([J)Z"⟩ : MethodName)) (z := (⟨"com/example/epsilonet/epsilonet/service/ObservationTree$Outcome", "makesHold", "([J)Z"⟩ : MethodName)) hown (mvT hZ (hw _ (List.mem_of_getElem? (i := 20) rfl))) (mvT hZ (hw _ (List.mem_of_getElem? (i := 21) rfl))) (notFace_of_selects (args := #[]) (mvT hZ (hw _ (List.mem_of_getElem? (i := 23) rfl)))) (mvT hZ (hw _ (List.mem_of_getElem? (i := 23) rfl))) (mvT hZ (hw _ (List.mem_of_getElem? (i := 22) rfl))) (by decide) (backOf (W := 0) (own_rm4 l Z a0 hw [] b55 b47 q_3 v46 q_1 q_2 T57.heap n0 (by omega) f65 f59 f60) hZ (hw _ (List.mem_of_getElem? (i := 24) rfl)) (hw _ (List.mem_of_getElem? (i := 4) rfl)) (by decide) (by decide)) q66a q66c (g := (mkF m 76 #[.val (.long q_1), .second, .val (.long q_2), .second, .val (.long q_3), .second, .val (.long q_4), .second, .val (.int p_5), .val (.long q_3), .second, .val (.long v46), .second, .val (.ref b47), .val (.ref b55), .unset, .unset, .unset, .unset, .unset, .unset] [(.ref b47), (.ref b55)])) rfl (by rw [hml]; rfl) (Steps.refl _) (argsL := [(.ref b47)]) (rest := []) (lenOf own_pd2 rfl) rfl (by show 2 * 0 + _ ≤ _; exact Nat.le_of_eq rfl) (hb hby at_76) (fun _ _ => ⟨rfl, rfl, (by show k57 + _ ≤ _; rw [y57]; decide), (by show n57 + _ ≤ _; rw [z57]; decide)⟩)
      dsimp only [Pt.U, Pt.locs, Pt.cells, Pt.slots] at X66 l66 y66 z66 st66 hQ66
      have y66 : k66 = 2 := own_addeq y66 (congrArg (fun q => q) y57) rfl
      have z66 : n66 = 4 := own_addeq z66 (congrArg (fun q => q) z57) rfl
      obtain ⟨r67, rfl, N66q, hr_r67, e66⟩ := hQ66
      have N66 : Fr n0 L66 := by rw [l66]; exact Fr.app N57 N66q
      refine own_go (fun _ k => st66.trans k) ?_
      show own_Go _ _ _ _ T66 (mkF m 79 #[.val (.long q_1), .second, .val (.long q_2), .second, .val (.long q_3), .second, .val (.long q_4), .second, .val (.int p_5), .val (.long q_3), .second, .val (.long v46), .second, .val (.ref b47), .val (.ref b55), .unset, .unset, .unset, .unset, .unset, .unset] [(.int r67)])
      refine own_go (fun _ k => XS.istore X66.here hx rfl (hb hby at_79) rfl (l' := #[.val (.long q_1), .second, .val (.long q_2), .second, .val (.long q_3), .second, .val (.long q_4), .second, .val (.int p_5), .val (.long q_3), .second, .val (.long v46), .second, .val (.ref b47), .val (.ref b55), .val (.int r67), .unset, .unset, .unset, .unset, .unset]) rfl k) ?_
      show own_Go _ _ _ _ T66 (mkF m 81 #[.val (.long q_1), .second, .val (.long q_2), .second, .val (.long q_3), .second, .val (.long q_4), .second, .val (.int p_5), .val (.long q_3), .second, .val (.long v46), .second, .val (.ref b47), .val (.ref b55), .val (.int r67), .unset, .unset, .unset, .unset, .unset] [])
      refine own_go (fun _ k => XS.lloadN X66.here hx rfl (hb hby at_81) rfl k) ?_
      show own_Go _ _ _ _ T66 (mkF m 82 #[.val (.long q_1), .second, .val (.long q_2), .second, .val (.long q_3), .second, .val (.long q_4), .second, .val (.int p_5), .val (.long q_3), .second, .val (.long v46), .second, .val (.ref b47), .val (.ref b55), .val (.int r67), .unset, .unset, .unset, .unset, .unset] [(.long q_1)])
      refine own_go (fun _ k => XS.lloadN X66.here hx rfl (hb hby at_82) rfl k) ?_
      show own_Go _ _ _ _ T66 (mkF m 83 #[.val (.long q_1), .second, .val (.long q_2), .second, .val (.long q_3), .second, .val (.long q_4), .second, .val (.int p_5), .val (.long q_3), .second, .val (.long v46), .second, .val (.ref b47), .val (.ref b55), .val (.int r67), .unset, .unset, .unset, .unset, .unset] [(.long q_2), (.long q_1)])
      refine own_go (fun _ k => XS.land X66.here hx rfl (hb hby at_83) rfl k) ?_
      show own_Go _ _ _ _ T66 (mkF m 84 #[.val (.long q_1), .second, .val (.long q_2), .second, .val (.long q_3), .second, .val (.long q_4), .second, .val (.int p_5), .val (.long q_3), .second, .val (.long v46), .second, .val (.ref b47), .val (.ref b55), .val (.int r67), .unset, .unset, .unset, .unset, .unset] [(.long (q_1 &&& q_2))])
      refine own_go (fun _ k => XS.lstore X66.here hx rfl (hb hby at_84) rfl (l' := #[.val (.long q_1), .second, .val (.long q_2), .second, .val (.long q_3), .second, .val (.long q_4), .second, .val (.int p_5), .val (.long q_3), .second, .val (.long v46), .second, .val (.ref b47), .val (.ref b55), .val (.int r67), .val (.long (q_1 &&& q_2)), .second, .unset, .unset, .unset]) rfl k) ?_
      show own_Go _ _ _ _ T66 (mkF m 86 #[.val (.long q_1), .second, .val (.long q_2), .second, .val (.long q_3), .second, .val (.long q_4), .second, .val (.int p_5), .val (.long q_3), .second, .val (.long v46), .second, .val (.ref b47), .val (.ref b55), .val (.int r67), .val (.long (q_1 &&& q_2)), .second, .unset, .unset, .unset] [])
      generalize hdv68 : (q_1 &&& q_2) = v68
      show own_Go _ _ _ _ T66 (mkF m 86 #[.val (.long q_1), .second, .val (.long q_2), .second, .val (.long q_3), .second, .val (.long q_4), .second, .val (.int p_5), .val (.long q_3), .second, .val (.long v46), .second, .val (.ref b47), .val (.ref b55), .val (.int r67), .val (.long v68), .second, .unset, .unset, .unset] [])
      refine own_go (fun _ k => XS.lloadN X66.here hx rfl (hb hby at_86) rfl k) ?_
      show own_Go _ _ _ _ T66 (mkF m 87 #[.val (.long q_1), .second, .val (.long q_2), .second, .val (.long q_3), .second, .val (.long q_4), .second, .val (.int p_5), .val (.long q_3), .second, .val (.long v46), .second, .val (.ref b47), .val (.ref b55), .val (.int r67), .val (.long v68), .second, .unset, .unset, .unset] [(.long q_1)])
      refine own_go (fun _ k => XS.lloadN X66.here hx rfl (hb hby at_87) rfl k) ?_
      show own_Go _ _ _ _ T66 (mkF m 88 #[.val (.long q_1), .second, .val (.long q_2), .second, .val (.long q_3), .second, .val (.long q_4), .second, .val (.int p_5), .val (.long q_3), .second, .val (.long v46), .second, .val (.ref b47), .val (.ref b55), .val (.int r67), .val (.long v68), .second, .unset, .unset, .unset] [(.long q_2), (.long q_1)])
      refine own_go (fun _ k => X66.ldc2Long hx hown (mvT hZ (hw _ (List.mem_of_getElem? (i := 0) rfl))) (g := (mkF m 88 #[.val (.long q_1), .second, .val (.long q_2), .second, .val (.long q_3), .second, .val (.long q_4), .second, .val (.int p_5), .val (.long q_3), .second, .val (.long v46), .second, .val (.ref b47), .val (.ref b55), .val (.int r67), .val (.long v68), .second, .unset, .unset, .unset] [(.long q_2), (.long q_1)])) rfl (hb hby at_88) _ k) ?_
      show own_Go _ _ _ _ T66 (mkF m 91 #[.val (.long q_1), .second, .val (.long q_2), .second, .val (.long q_3), .second, .val (.long q_4), .second, .val (.int p_5), .val (.long q_3), .second, .val (.long v46), .second, .val (.ref b47), .val (.ref b55), .val (.int r67), .val (.long v68), .second, .unset, .unset, .unset] [(.long (-1 : Int64)), (.long q_2), (.long q_1)])
      refine own_go (fun _ k => XS.lxor X66.here hx rfl (hb hby at_91) rfl k) ?_
      show own_Go _ _ _ _ T66 (mkF m 92 #[.val (.long q_1), .second, .val (.long q_2), .second, .val (.long q_3), .second, .val (.long q_4), .second, .val (.int p_5), .val (.long q_3), .second, .val (.long v46), .second, .val (.ref b47), .val (.ref b55), .val (.int r67), .val (.long v68), .second, .unset, .unset, .unset] [(.long (q_2 ^^^ (-1 : Int64))), (.long q_1)])
      refine own_go (fun _ k => XS.land X66.here hx rfl (hb hby at_92) rfl k) ?_
      show own_Go _ _ _ _ T66 (mkF m 93 #[.val (.long q_1), .second, .val (.long q_2), .second, .val (.long q_3), .second, .val (.long q_4), .second, .val (.int p_5), .val (.long q_3), .second, .val (.long v46), .second, .val (.ref b47), .val (.ref b55), .val (.int r67), .val (.long v68), .second, .unset, .unset, .unset] [(.long (q_1 &&& (q_2 ^^^ (-1 : Int64))))])
      refine own_go (fun _ k => XS.lstore X66.here hx rfl (hb hby at_93) rfl (l' := #[.val (.long q_1), .second, .val (.long q_2), .second, .val (.long q_3), .second, .val (.long q_4), .second, .val (.int p_5), .val (.long q_3), .second, .val (.long v46), .second, .val (.ref b47), .val (.ref b55), .val (.int r67), .val (.long v68), .second, .val (.long (q_1 &&& (q_2 ^^^ (-1 : Int64)))), .second, .unset]) rfl k) ?_
      show own_Go _ _ _ _ T66 (mkF m 95 #[.val (.long q_1), .second, .val (.long q_2), .second, .val (.long q_3), .second, .val (.long q_4), .second, .val (.int p_5), .val (.long q_3), .second, .val (.long v46), .second, .val (.ref b47), .val (.ref b55), .val (.int r67), .val (.long v68), .second, .val (.long (q_1 &&& (q_2 ^^^ (-1 : Int64)))), .second, .unset] [])
      generalize hdv69 : (q_1 &&& (q_2 ^^^ (-1 : Int64))) = v69
      show own_Go _ _ _ _ T66 (mkF m 95 #[.val (.long q_1), .second, .val (.long q_2), .second, .val (.long q_3), .second, .val (.long q_4), .second, .val (.int p_5), .val (.long q_3), .second, .val (.long v46), .second, .val (.ref b47), .val (.ref b55), .val (.int r67), .val (.long v68), .second, .val (.long v69), .second, .unset] [])
      refine own_go (fun _ k => XS.lload X66.here hx rfl (hb hby at_95) rfl k) ?_
      show own_Go _ _ _ _ T66 (mkF m 97 #[.val (.long q_1), .second, .val (.long q_2), .second, .val (.long q_3), .second, .val (.long q_4), .second, .val (.int p_5), .val (.long q_3), .second, .val (.long v46), .second, .val (.ref b47), .val (.ref b55), .val (.int r67), .val (.long v68), .second, .val (.long v69), .second, .unset] [(.long q_3)])
      refine own_go (fun _ k => XS.lload X66.here hx rfl (hb hby at_97) rfl k) ?_
      show own_Go _ _ _ _ T66 (mkF m 99 #[.val (.long q_1), .second, .val (.long q_2), .second, .val (.long q_3), .second, .val (.long q_4), .second, .val (.int p_5), .val (.long q_3), .second, .val (.long v46), .second, .val (.ref b47), .val (.ref b55), .val (.int r67), .val (.long v68), .second, .val (.long v69), .second, .unset] [(.long v68), (.long q_3)])
      refine own_go (fun _ k => X66.ldc2Long hx hown (mvT hZ (hw _ (List.mem_of_getElem? (i := 0) rfl))) (g := (mkF m 99 #[.val (.long q_1), .second, .val (.long q_2), .second, .val (.long q_3), .second, .val (.long q_4), .second, .val (.int p_5), .val (.long q_3), .second, .val (.long v46), .second, .val (.ref b47), .val (.ref b55), .val (.int r67), .val (.long v68), .second, .val (.long v69), .second, .unset] [(.long v68), (.long q_3)])) rfl (hb hby at_99) _ k) ?_
      show own_Go _ _ _ _ T66 (mkF m 102 #[.val (.long q_1), .second, .val (.long q_2), .second, .val (.long q_3), .second, .val (.long q_4), .second, .val (.int p_5), .val (.long q_3), .second, .val (.long v46), .second, .val (.ref b47), .val (.ref b55), .val (.int r67), .val (.long v68), .second, .val (.long v69), .second, .unset] [(.long (-1 : Int64)), (.long v68), (.long q_3)])
      refine own_go (fun _ k => XS.lxor X66.here hx rfl (hb hby at_102) rfl k) ?_
      show own_Go _ _ _ _ T66 (mkF m 103 #[.val (.long q_1), .second, .val (.long q_2), .second, .val (.long q_3), .second, .val (.long q_4), .second, .val (.int p_5), .val (.long q_3), .second, .val (.long v46), .second, .val (.ref b47), .val (.ref b55), .val (.int r67), .val (.long v68), .second, .val (.long v69), .second, .unset] [(.long (v68 ^^^ (-1 : Int64))), (.long q_3)])
      refine own_go (fun _ k => XS.land X66.here hx rfl (hb hby at_103) rfl k) ?_
      show own_Go _ _ _ _ T66 (mkF m 104 #[.val (.long q_1), .second, .val (.long q_2), .second, .val (.long q_3), .second, .val (.long q_4), .second, .val (.int p_5), .val (.long q_3), .second, .val (.long v46), .second, .val (.ref b47), .val (.ref b55), .val (.int r67), .val (.long v68), .second, .val (.long v69), .second, .unset] [(.long (q_3 &&& (v68 ^^^ (-1 : Int64))))])
      refine own_go (fun _ k => XS.lconst X66.here hx rfl (hb hby at_104) k) ?_
      show own_Go _ _ _ _ T66 (mkF m 105 #[.val (.long q_1), .second, .val (.long q_2), .second, .val (.long q_3), .second, .val (.long q_4), .second, .val (.int p_5), .val (.long q_3), .second, .val (.long v46), .second, .val (.ref b47), .val (.ref b55), .val (.int r67), .val (.long v68), .second, .val (.long v69), .second, .unset] [(.long (0 : Int64)), (.long (q_3 &&& (v68 ^^^ (-1 : Int64))))])
      refine own_go (fun _ k => XS.lcmp X66.here hx rfl (hb hby at_105) rfl k) ?_
      show own_Go _ _ _ _ T66 (mkF m 106 #[.val (.long q_1), .second, .val (.long q_2), .second, .val (.long q_3), .second, .val (.long q_4), .second, .val (.int p_5), .val (.long q_3), .second, .val (.long v46), .second, .val (.ref b47), .val (.ref b55), .val (.int r67), .val (.long v68), .second, .val (.long v69), .second, .unset] [(.int (lcmpW (q_3 &&& (v68 ^^^ (-1 : Int64))) (0 : Int64)))])
      by_cases hc70 : (q_3 &&& (v68 ^^^ (-1 : Int64))) = (0 : Int64)
      · refine own_go (fun _ k => XS.ifNo X66.here hx rfl (hb hby at_106) rfl (Jvm.Free.XT.ll_ne_f hc70) k) ?_
        show own_Go _ _ _ _ T66 (mkF m 109 #[.val (.long q_1), .second, .val (.long q_2), .second, .val (.long q_3), .second, .val (.long q_4), .second, .val (.int p_5), .val (.long q_3), .second, .val (.long v46), .second, .val (.ref b47), .val (.ref b55), .val (.int r67), .val (.long v68), .second, .val (.long v69), .second, .unset] [])
        refine own_go (fun _ k => XS.lload X66.here hx rfl (hb hby at_109) rfl k) ?_
        show own_Go _ _ _ _ T66 (mkF m 111 #[.val (.long q_1), .second, .val (.long q_2), .second, .val (.long q_3), .second, .val (.long q_4), .second, .val (.int p_5), .val (.long q_3), .second, .val (.long v46), .second, .val (.ref b47), .val (.ref b55), .val (.int r67), .val (.long v68), .second, .val (.long v69), .second, .unset] [(.long v46)])
        refine own_go (fun _ k => XS.lload X66.here hx rfl (hb hby at_111) rfl k) ?_
        show own_Go _ _ _ _ T66 (mkF m 113 #[.val (.long q_1), .second, .val (.long q_2), .second, .val (.long q_3), .second, .val (.long q_4), .second, .val (.int p_5), .val (.long q_3), .second, .val (.long v46), .second, .val (.ref b47), .val (.ref b55), .val (.int r67), .val (.long v68), .second, .val (.long v69), .second, .unset] [(.long v69), (.long v46)])
        refine own_go (fun _ k => X66.ldc2Long hx hown (mvT hZ (hw _ (List.mem_of_getElem? (i := 0) rfl))) (g := (mkF m 113 #[.val (.long q_1), .second, .val (.long q_2), .second, .val (.long q_3), .second, .val (.long q_4), .second, .val (.int p_5), .val (.long q_3), .second, .val (.long v46), .second, .val (.ref b47), .val (.ref b55), .val (.int r67), .val (.long v68), .second, .val (.long v69), .second, .unset] [(.long v69), (.long v46)])) rfl (hb hby at_113) _ k) ?_
        show own_Go _ _ _ _ T66 (mkF m 116 #[.val (.long q_1), .second, .val (.long q_2), .second, .val (.long q_3), .second, .val (.long q_4), .second, .val (.int p_5), .val (.long q_3), .second, .val (.long v46), .second, .val (.ref b47), .val (.ref b55), .val (.int r67), .val (.long v68), .second, .val (.long v69), .second, .unset] [(.long (-1 : Int64)), (.long v69), (.long v46)])
        refine own_go (fun _ k => XS.lxor X66.here hx rfl (hb hby at_116) rfl k) ?_
        show own_Go _ _ _ _ T66 (mkF m 117 #[.val (.long q_1), .second, .val (.long q_2), .second, .val (.long q_3), .second, .val (.long q_4), .second, .val (.int p_5), .val (.long q_3), .second, .val (.long v46), .second, .val (.ref b47), .val (.ref b55), .val (.int r67), .val (.long v68), .second, .val (.long v69), .second, .unset] [(.long (v69 ^^^ (-1 : Int64))), (.long v46)])
        refine own_go (fun _ k => XS.land X66.here hx rfl (hb hby at_117) rfl k) ?_
        show own_Go _ _ _ _ T66 (mkF m 118 #[.val (.long q_1), .second, .val (.long q_2), .second, .val (.long q_3), .second, .val (.long q_4), .second, .val (.int p_5), .val (.long q_3), .second, .val (.long v46), .second, .val (.ref b47), .val (.ref b55), .val (.int r67), .val (.long v68), .second, .val (.long v69), .second, .unset] [(.long (v46 &&& (v69 ^^^ (-1 : Int64))))])
        refine own_go (fun _ k => XS.lconst X66.here hx rfl (hb hby at_118) k) ?_
        show own_Go _ _ _ _ T66 (mkF m 119 #[.val (.long q_1), .second, .val (.long q_2), .second, .val (.long q_3), .second, .val (.long q_4), .second, .val (.int p_5), .val (.long q_3), .second, .val (.long v46), .second, .val (.ref b47), .val (.ref b55), .val (.int r67), .val (.long v68), .second, .val (.long v69), .second, .unset] [(.long (0 : Int64)), (.long (v46 &&& (v69 ^^^ (-1 : Int64))))])
        refine own_go (fun _ k => XS.lcmp X66.here hx rfl (hb hby at_119) rfl k) ?_
        show own_Go _ _ _ _ T66 (mkF m 120 #[.val (.long q_1), .second, .val (.long q_2), .second, .val (.long q_3), .second, .val (.long q_4), .second, .val (.int p_5), .val (.long q_3), .second, .val (.long v46), .second, .val (.ref b47), .val (.ref b55), .val (.int r67), .val (.long v68), .second, .val (.long v69), .second, .unset] [(.int (lcmpW (v46 &&& (v69 ^^^ (-1 : Int64))) (0 : Int64)))])
        by_cases hc71 : (v46 &&& (v69 ^^^ (-1 : Int64))) = (0 : Int64)
        · refine own_go (fun _ k => XS.ifNo X66.here hx rfl (hb hby at_120) rfl (Jvm.Free.XT.ll_ne_f hc71) k) ?_
          show own_Go _ _ _ _ T66 (mkF m 123 #[.val (.long q_1), .second, .val (.long q_2), .second, .val (.long q_3), .second, .val (.long q_4), .second, .val (.int p_5), .val (.long q_3), .second, .val (.long v46), .second, .val (.ref b47), .val (.ref b55), .val (.int r67), .val (.long v68), .second, .val (.long v69), .second, .unset] [])
          refine own_go (fun _ k => XS.iconst X66.here hx rfl (hb hby at_123) k) ?_
          show own_Go _ _ _ _ T66 (mkF m 124 #[.val (.long q_1), .second, .val (.long q_2), .second, .val (.long q_3), .second, .val (.long q_4), .second, .val (.int p_5), .val (.long q_3), .second, .val (.long v46), .second, .val (.ref b47), .val (.ref b55), .val (.int r67), .val (.long v68), .second, .val (.long v69), .second, .unset] [(.int (1 : Int32))])
          refine own_go (fun _ k => XS.goto X66.here hx rfl (pc0 := 124) (pc' := 128) rfl (hb hby at_124) (by decide) (by decide) k) ?_
          show own_Go _ _ _ _ T66 (mkF m 128 #[.val (.long q_1), .second, .val (.long q_2), .second, .val (.long q_3), .second, .val (.long q_4), .second, .val (.int p_5), .val (.long q_3), .second, .val (.long v46), .second, .val (.ref b47), .val (.ref b55), .val (.int r67), .val (.long v68), .second, .val (.long v69), .second, .unset] [(.int (1 : Int32))])
          refine own_go (fun _ k => XS.istore X66.here hx rfl (hb hby at_128) rfl (l' := #[.val (.long q_1), .second, .val (.long q_2), .second, .val (.long q_3), .second, .val (.long q_4), .second, .val (.int p_5), .val (.long q_3), .second, .val (.long v46), .second, .val (.ref b47), .val (.ref b55), .val (.int r67), .val (.long v68), .second, .val (.long v69), .second, .val (.int (1 : Int32))]) rfl k) ?_
          show own_Go _ _ _ _ T66 (mkF m 130 #[.val (.long q_1), .second, .val (.long q_2), .second, .val (.long q_3), .second, .val (.long q_4), .second, .val (.int p_5), .val (.long q_3), .second, .val (.long v46), .second, .val (.ref b47), .val (.ref b55), .val (.int r67), .val (.long v68), .second, .val (.long v69), .second, .val (.int (1 : Int32))] [])
          refine own_go (fun _ k => XS.iload X66.here hx rfl (hb hby at_130) rfl k) ?_
          show own_Go _ _ _ _ T66 (mkF m 132 #[.val (.long q_1), .second, .val (.long q_2), .second, .val (.long q_3), .second, .val (.long q_4), .second, .val (.int p_5), .val (.long q_3), .second, .val (.long v46), .second, .val (.ref b47), .val (.ref b55), .val (.int r67), .val (.long v68), .second, .val (.long v69), .second, .val (.int (1 : Int32))] [(.int r67)])
          refine own_go (fun _ k => XS.iload X66.here hx rfl (hb hby at_132) rfl k) ?_
          show own_Go _ _ _ _ T66 (mkF m 134 #[.val (.long q_1), .second, .val (.long q_2), .second, .val (.long q_3), .second, .val (.long q_4), .second, .val (.int p_5), .val (.long q_3), .second, .val (.long v46), .second, .val (.ref b47), .val (.ref b55), .val (.int r67), .val (.long v68), .second, .val (.long v69), .second, .val (.int (1 : Int32))] [(.int (1 : Int32)), (.int r67)])
          have hc72 : r67 = (1 : Int32) := own_t0_3 q_1 q_2 q_3 q_4 v46 r67 v68 v69 hdv46 hr_r67 hdv68 hdv69 hc70 hc71
          refine own_go (fun _ k => XS.icmpNo X66.here hx rfl (hb hby at_134) rfl (Jvm.Free.XT.ii_ne_f hc72) k) ?_
          show own_Go _ _ _ _ T66 (mkF m 137 #[.val (.long q_1), .second, .val (.long q_2), .second, .val (.long q_3), .second, .val (.long q_4), .second, .val (.int p_5), .val (.long q_3), .second, .val (.long v46), .second, .val (.ref b47), .val (.ref b55), .val (.int r67), .val (.long v68), .second, .val (.long v69), .second, .val (.int (1 : Int32))] [])
          refine own_go (fun _ k => XS.aload X66.here hx rfl (hb hby at_137) rfl rfl k) ?_
          show own_Go _ _ _ _ T66 (mkF m 139 #[.val (.long q_1), .second, .val (.long q_2), .second, .val (.long q_3), .second, .val (.long q_4), .second, .val (.int p_5), .val (.long q_3), .second, .val (.long v46), .second, .val (.ref b47), .val (.ref b55), .val (.int r67), .val (.long v68), .second, .val (.long v69), .second, .val (.int (1 : Int32))] [(.ref b47)])
          refine own_go (fun _ k => XS.iconst X66.here hx rfl (hb hby at_139) k) ?_
          show own_Go _ _ _ _ T66 (mkF m 140 #[.val (.long q_1), .second, .val (.long q_2), .second, .val (.long q_3), .second, .val (.long q_4), .second, .val (.int p_5), .val (.long q_3), .second, .val (.long v46), .second, .val (.ref b47), .val (.ref b55), .val (.int r67), .val (.long v68), .second, .val (.long v69), .second, .val (.int (1 : Int32))] [(.int (0 : Int32)), (.ref b47)])
          obtain ⟨q73, c73, R73, s73, t73⟩ := id f65
          have hin73 : ¬ ((0 : Int32) < 0 ∨ c73.slots.size ≤ ((0 : Int32)).toNatClampNeg) := inb_of s73 ⟨by decide, by decide⟩
          have u73 : c73.slots[((0 : Int32)).toNatClampNeg]? = some (.long q_3) := own_at (k := 0) t73 s73 hin73 (by decide) (rfl)
          refine own_go (fun _ k => X66.laload hx (j := (0 : Int32)) (v := (.long q_3)) (by rw [e66]; exact R73.1) (State.isArrayOf_alike hZ.alike R73.2.1) R73.2.2 hin73 u73 (g := (mkF m 140 #[.val (.long q_1), .second, .val (.long q_2), .second, .val (.long q_3), .second, .val (.long q_4), .second, .val (.int p_5), .val (.long q_3), .second, .val (.long v46), .second, .val (.ref b47), .val (.ref b55), .val (.int r67), .val (.long v68), .second, .val (.long v69), .second, .val (.int (1 : Int32))] [(.int (0 : Int32)), (.ref b47)])) rfl rfl (hb hby at_140) _ k) ?_
          show own_Go _ _ _ _ T66 (mkF m 141 #[.val (.long q_1), .second, .val (.long q_2), .second, .val (.long q_3), .second, .val (.long q_4), .second, .val (.int p_5), .val (.long q_3), .second, .val (.long v46), .second, .val (.ref b47), .val (.ref b55), .val (.int r67), .val (.long v68), .second, .val (.long v69), .second, .val (.int (1 : Int32))] [(.long q_3)])
          refine own_go (fun _ k => XS.lload X66.here hx rfl (hb hby at_141) rfl k) ?_
          show own_Go _ _ _ _ T66 (mkF m 143 #[.val (.long q_1), .second, .val (.long q_2), .second, .val (.long q_3), .second, .val (.long q_4), .second, .val (.int p_5), .val (.long q_3), .second, .val (.long v46), .second, .val (.ref b47), .val (.ref b55), .val (.int r67), .val (.long v68), .second, .val (.long v69), .second, .val (.int (1 : Int32))] [(.long q_3), (.long q_3)])
          refine own_go (fun _ k => XS.lcmp X66.here hx rfl (hb hby at_143) rfl k) ?_
          show own_Go _ _ _ _ T66 (mkF m 144 #[.val (.long q_1), .second, .val (.long q_2), .second, .val (.long q_3), .second, .val (.long q_4), .second, .val (.int p_5), .val (.long q_3), .second, .val (.long v46), .second, .val (.ref b47), .val (.ref b55), .val (.int r67), .val (.long v68), .second, .val (.long v69), .second, .val (.int (1 : Int32))] [(.int (lcmpW q_3 q_3))])
          have hc74 : q_3 = q_3 := rfl
          refine own_go (fun _ k => XS.ifNo X66.here hx rfl (hb hby at_144) rfl (Jvm.Free.XT.ll_ne_f hc74) k) ?_
          show own_Go _ _ _ _ T66 (mkF m 147 #[.val (.long q_1), .second, .val (.long q_2), .second, .val (.long q_3), .second, .val (.long q_4), .second, .val (.int p_5), .val (.long q_3), .second, .val (.long v46), .second, .val (.ref b47), .val (.ref b55), .val (.int r67), .val (.long v68), .second, .val (.long v69), .second, .val (.int (1 : Int32))] [])
          refine own_go (fun _ k => XS.aload X66.here hx rfl (hb hby at_147) rfl rfl k) ?_
          show own_Go _ _ _ _ T66 (mkF m 149 #[.val (.long q_1), .second, .val (.long q_2), .second, .val (.long q_3), .second, .val (.long q_4), .second, .val (.int p_5), .val (.long q_3), .second, .val (.long v46), .second, .val (.ref b47), .val (.ref b55), .val (.int r67), .val (.long v68), .second, .val (.long v69), .second, .val (.int (1 : Int32))] [(.ref b47)])
          refine own_go (fun _ k => XS.iconst X66.here hx rfl (hb hby at_149) k) ?_
          show own_Go _ _ _ _ T66 (mkF m 150 #[.val (.long q_1), .second, .val (.long q_2), .second, .val (.long q_3), .second, .val (.long q_4), .second, .val (.int p_5), .val (.long q_3), .second, .val (.long v46), .second, .val (.ref b47), .val (.ref b55), .val (.int r67), .val (.long v68), .second, .val (.long v69), .second, .val (.int (1 : Int32))] [(.int (1 : Int32)), (.ref b47)])
          obtain ⟨q75, c75, R75, s75, t75⟩ := id f65
          have hin75 : ¬ ((1 : Int32) < 0 ∨ c75.slots.size ≤ ((1 : Int32)).toNatClampNeg) := inb_of s75 ⟨by decide, by decide⟩
          have u75 : c75.slots[((1 : Int32)).toNatClampNeg]? = some (.long v46) := own_at (k := 1) t75 s75 hin75 (by decide) (rfl)
          refine own_go (fun _ k => X66.laload hx (j := (1 : Int32)) (v := (.long v46)) (by rw [e66]; exact R75.1) (State.isArrayOf_alike hZ.alike R75.2.1) R75.2.2 hin75 u75 (g := (mkF m 150 #[.val (.long q_1), .second, .val (.long q_2), .second, .val (.long q_3), .second, .val (.long q_4), .second, .val (.int p_5), .val (.long q_3), .second, .val (.long v46), .second, .val (.ref b47), .val (.ref b55), .val (.int r67), .val (.long v68), .second, .val (.long v69), .second, .val (.int (1 : Int32))] [(.int (1 : Int32)), (.ref b47)])) rfl rfl (hb hby at_150) _ k) ?_
          show own_Go _ _ _ _ T66 (mkF m 151 #[.val (.long q_1), .second, .val (.long q_2), .second, .val (.long q_3), .second, .val (.long q_4), .second, .val (.int p_5), .val (.long q_3), .second, .val (.long v46), .second, .val (.ref b47), .val (.ref b55), .val (.int r67), .val (.long v68), .second, .val (.long v69), .second, .val (.int (1 : Int32))] [(.long v46)])
          refine own_go (fun _ k => XS.lload X66.here hx rfl (hb hby at_151) rfl k) ?_
          show own_Go _ _ _ _ T66 (mkF m 153 #[.val (.long q_1), .second, .val (.long q_2), .second, .val (.long q_3), .second, .val (.long q_4), .second, .val (.int p_5), .val (.long q_3), .second, .val (.long v46), .second, .val (.ref b47), .val (.ref b55), .val (.int r67), .val (.long v68), .second, .val (.long v69), .second, .val (.int (1 : Int32))] [(.long v46), (.long v46)])
          refine own_go (fun _ k => XS.lcmp X66.here hx rfl (hb hby at_153) rfl k) ?_
          show own_Go _ _ _ _ T66 (mkF m 154 #[.val (.long q_1), .second, .val (.long q_2), .second, .val (.long q_3), .second, .val (.long q_4), .second, .val (.int p_5), .val (.long q_3), .second, .val (.long v46), .second, .val (.ref b47), .val (.ref b55), .val (.int r67), .val (.long v68), .second, .val (.long v69), .second, .val (.int (1 : Int32))] [(.int (lcmpW v46 v46))])
          have hc76 : v46 = v46 := rfl
          refine own_go (fun _ k => XS.ifNo X66.here hx rfl (hb hby at_154) rfl (Jvm.Free.XT.ll_ne_f hc76) k) ?_
          show own_Go _ _ _ _ T66 (mkF m 157 #[.val (.long q_1), .second, .val (.long q_2), .second, .val (.long q_3), .second, .val (.long q_4), .second, .val (.int p_5), .val (.long q_3), .second, .val (.long v46), .second, .val (.ref b47), .val (.ref b55), .val (.int r67), .val (.long v68), .second, .val (.long v69), .second, .val (.int (1 : Int32))] [])
          refine own_go (fun _ k => XS.iconst X66.here hx rfl (hb hby at_157) k) ?_
          show own_Go _ _ _ _ T66 (mkF m 158 #[.val (.long q_1), .second, .val (.long q_2), .second, .val (.long q_3), .second, .val (.long q_4), .second, .val (.int p_5), .val (.long q_3), .second, .val (.long v46), .second, .val (.ref b47), .val (.ref b55), .val (.int r67), .val (.long v68), .second, .val (.long v69), .second, .val (.int (1 : Int32))] [(.int (1 : Int32))])
          refine own_go (fun _ k => XS.goto X66.here hx rfl (pc0 := 158) (pc' := 162) rfl (hb hby at_158) (by decide) (by decide) k) ?_
          show own_Go _ _ _ _ T66 (mkF m 162 #[.val (.long q_1), .second, .val (.long q_2), .second, .val (.long q_3), .second, .val (.long q_4), .second, .val (.int p_5), .val (.long q_3), .second, .val (.long v46), .second, .val (.ref b47), .val (.ref b55), .val (.int r67), .val (.long v68), .second, .val (.long v69), .second, .val (.int (1 : Int32))] [(.int (1 : Int32))])
          obtain ⟨fs, hr, hrun, hended, hW, hsame⟩ := X66.leave (v := some (.int (1 : Int32))) (fun h => by rw [Bd.returns] at h; cases h)
          refine ⟨_, _, retOut X66 hx Bd.returns rfl (Or.inl ⟨rfl, Or.inr (Or.inl rfl), _, rfl⟩) (hb hby at_162) hr, hrun, hended, _, _, rfl, ?_, ⟨_, rfl⟩, hW, hsame.mono (by rw [y66]; decide) (by rw [z66]; decide)⟩
          show own_Q0 Z q_1 q_2 q_3 q_4 p_5 h0 n0 _ T66.heap _
          rw [e66]
          exact ⟨rfl, N66⟩
        · refine own_go (fun _ k => XS.ifYes X66.here hx rfl (pc0 := 120) (pc' := 127) rfl (hb hby at_120) rfl (Jvm.Free.XT.ll_ne_t hc71) (by decide) (by decide) k) ?_
          show own_Go _ _ _ _ T66 (mkF m 127 #[.val (.long q_1), .second, .val (.long q_2), .second, .val (.long q_3), .second, .val (.long q_4), .second, .val (.int p_5), .val (.long q_3), .second, .val (.long v46), .second, .val (.ref b47), .val (.ref b55), .val (.int r67), .val (.long v68), .second, .val (.long v69), .second, .unset] [])
          refine own_go (fun _ k => XS.iconst X66.here hx rfl (hb hby at_127) k) ?_
          show own_Go _ _ _ _ T66 (mkF m 128 #[.val (.long q_1), .second, .val (.long q_2), .second, .val (.long q_3), .second, .val (.long q_4), .second, .val (.int p_5), .val (.long q_3), .second, .val (.long v46), .second, .val (.ref b47), .val (.ref b55), .val (.int r67), .val (.long v68), .second, .val (.long v69), .second, .unset] [(.int (0 : Int32))])
          refine own_go (fun _ k => XS.istore X66.here hx rfl (hb hby at_128) rfl (l' := #[.val (.long q_1), .second, .val (.long q_2), .second, .val (.long q_3), .second, .val (.long q_4), .second, .val (.int p_5), .val (.long q_3), .second, .val (.long v46), .second, .val (.ref b47), .val (.ref b55), .val (.int r67), .val (.long v68), .second, .val (.long v69), .second, .val (.int (0 : Int32))]) rfl k) ?_
          show own_Go _ _ _ _ T66 (mkF m 130 #[.val (.long q_1), .second, .val (.long q_2), .second, .val (.long q_3), .second, .val (.long q_4), .second, .val (.int p_5), .val (.long q_3), .second, .val (.long v46), .second, .val (.ref b47), .val (.ref b55), .val (.int r67), .val (.long v68), .second, .val (.long v69), .second, .val (.int (0 : Int32))] [])
          refine own_go (fun _ k => XS.iload X66.here hx rfl (hb hby at_130) rfl k) ?_
          show own_Go _ _ _ _ T66 (mkF m 132 #[.val (.long q_1), .second, .val (.long q_2), .second, .val (.long q_3), .second, .val (.long q_4), .second, .val (.int p_5), .val (.long q_3), .second, .val (.long v46), .second, .val (.ref b47), .val (.ref b55), .val (.int r67), .val (.long v68), .second, .val (.long v69), .second, .val (.int (0 : Int32))] [(.int r67)])
          refine own_go (fun _ k => XS.iload X66.here hx rfl (hb hby at_132) rfl k) ?_
          show own_Go _ _ _ _ T66 (mkF m 134 #[.val (.long q_1), .second, .val (.long q_2), .second, .val (.long q_3), .second, .val (.long q_4), .second, .val (.int p_5), .val (.long q_3), .second, .val (.long v46), .second, .val (.ref b47), .val (.ref b55), .val (.int r67), .val (.long v68), .second, .val (.long v69), .second, .val (.int (0 : Int32))] [(.int (0 : Int32)), (.int r67)])
          have hc78 : r67 = (0 : Int32) := own_t0_4 q_1 q_2 q_3 q_4 v46 r67 v68 v69 hdv46 hr_r67 hdv68 hdv69 hc70 hc71
          refine own_go (fun _ k => XS.icmpNo X66.here hx rfl (hb hby at_134) rfl (Jvm.Free.XT.ii_ne_f hc78) k) ?_
          show own_Go _ _ _ _ T66 (mkF m 137 #[.val (.long q_1), .second, .val (.long q_2), .second, .val (.long q_3), .second, .val (.long q_4), .second, .val (.int p_5), .val (.long q_3), .second, .val (.long v46), .second, .val (.ref b47), .val (.ref b55), .val (.int r67), .val (.long v68), .second, .val (.long v69), .second, .val (.int (0 : Int32))] [])
          refine own_go (fun _ k => XS.aload X66.here hx rfl (hb hby at_137) rfl rfl k) ?_
          show own_Go _ _ _ _ T66 (mkF m 139 #[.val (.long q_1), .second, .val (.long q_2), .second, .val (.long q_3), .second, .val (.long q_4), .second, .val (.int p_5), .val (.long q_3), .second, .val (.long v46), .second, .val (.ref b47), .val (.ref b55), .val (.int r67), .val (.long v68), .second, .val (.long v69), .second, .val (.int (0 : Int32))] [(.ref b47)])
          refine own_go (fun _ k => XS.iconst X66.here hx rfl (hb hby at_139) k) ?_
          show own_Go _ _ _ _ T66 (mkF m 140 #[.val (.long q_1), .second, .val (.long q_2), .second, .val (.long q_3), .second, .val (.long q_4), .second, .val (.int p_5), .val (.long q_3), .second, .val (.long v46), .second, .val (.ref b47), .val (.ref b55), .val (.int r67), .val (.long v68), .second, .val (.long v69), .second, .val (.int (0 : Int32))] [(.int (0 : Int32)), (.ref b47)])
          obtain ⟨q79, c79, R79, s79, t79⟩ := id f65
          have hin79 : ¬ ((0 : Int32) < 0 ∨ c79.slots.size ≤ ((0 : Int32)).toNatClampNeg) := inb_of s79 ⟨by decide, by decide⟩
          have u79 : c79.slots[((0 : Int32)).toNatClampNeg]? = some (.long q_3) := own_at (k := 0) t79 s79 hin79 (by decide) (rfl)
          refine own_go (fun _ k => X66.laload hx (j := (0 : Int32)) (v := (.long q_3)) (by rw [e66]; exact R79.1) (State.isArrayOf_alike hZ.alike R79.2.1) R79.2.2 hin79 u79 (g := (mkF m 140 #[.val (.long q_1), .second, .val (.long q_2), .second, .val (.long q_3), .second, .val (.long q_4), .second, .val (.int p_5), .val (.long q_3), .second, .val (.long v46), .second, .val (.ref b47), .val (.ref b55), .val (.int r67), .val (.long v68), .second, .val (.long v69), .second, .val (.int (0 : Int32))] [(.int (0 : Int32)), (.ref b47)])) rfl rfl (hb hby at_140) _ k) ?_
          show own_Go _ _ _ _ T66 (mkF m 141 #[.val (.long q_1), .second, .val (.long q_2), .second, .val (.long q_3), .second, .val (.long q_4), .second, .val (.int p_5), .val (.long q_3), .second, .val (.long v46), .second, .val (.ref b47), .val (.ref b55), .val (.int r67), .val (.long v68), .second, .val (.long v69), .second, .val (.int (0 : Int32))] [(.long q_3)])
          refine own_go (fun _ k => XS.lload X66.here hx rfl (hb hby at_141) rfl k) ?_
          show own_Go _ _ _ _ T66 (mkF m 143 #[.val (.long q_1), .second, .val (.long q_2), .second, .val (.long q_3), .second, .val (.long q_4), .second, .val (.int p_5), .val (.long q_3), .second, .val (.long v46), .second, .val (.ref b47), .val (.ref b55), .val (.int r67), .val (.long v68), .second, .val (.long v69), .second, .val (.int (0 : Int32))] [(.long q_3), (.long q_3)])
          refine own_go (fun _ k => XS.lcmp X66.here hx rfl (hb hby at_143) rfl k) ?_
          show own_Go _ _ _ _ T66 (mkF m 144 #[.val (.long q_1), .second, .val (.long q_2), .second, .val (.long q_3), .second, .val (.long q_4), .second, .val (.int p_5), .val (.long q_3), .second, .val (.long v46), .second, .val (.ref b47), .val (.ref b55), .val (.int r67), .val (.long v68), .second, .val (.long v69), .second, .val (.int (0 : Int32))] [(.int (lcmpW q_3 q_3))])
          have hc80 : q_3 = q_3 := rfl
          refine own_go (fun _ k => XS.ifNo X66.here hx rfl (hb hby at_144) rfl (Jvm.Free.XT.ll_ne_f hc80) k) ?_
          show own_Go _ _ _ _ T66 (mkF m 147 #[.val (.long q_1), .second, .val (.long q_2), .second, .val (.long q_3), .second, .val (.long q_4), .second, .val (.int p_5), .val (.long q_3), .second, .val (.long v46), .second, .val (.ref b47), .val (.ref b55), .val (.int r67), .val (.long v68), .second, .val (.long v69), .second, .val (.int (0 : Int32))] [])
          refine own_go (fun _ k => XS.aload X66.here hx rfl (hb hby at_147) rfl rfl k) ?_
          show own_Go _ _ _ _ T66 (mkF m 149 #[.val (.long q_1), .second, .val (.long q_2), .second, .val (.long q_3), .second, .val (.long q_4), .second, .val (.int p_5), .val (.long q_3), .second, .val (.long v46), .second, .val (.ref b47), .val (.ref b55), .val (.int r67), .val (.long v68), .second, .val (.long v69), .second, .val (.int (0 : Int32))] [(.ref b47)])
          refine own_go (fun _ k => XS.iconst X66.here hx rfl (hb hby at_149) k) ?_
          show own_Go _ _ _ _ T66 (mkF m 150 #[.val (.long q_1), .second, .val (.long q_2), .second, .val (.long q_3), .second, .val (.long q_4), .second, .val (.int p_5), .val (.long q_3), .second, .val (.long v46), .second, .val (.ref b47), .val (.ref b55), .val (.int r67), .val (.long v68), .second, .val (.long v69), .second, .val (.int (0 : Int32))] [(.int (1 : Int32)), (.ref b47)])
          obtain ⟨q81, c81, R81, s81, t81⟩ := id f65
          have hin81 : ¬ ((1 : Int32) < 0 ∨ c81.slots.size ≤ ((1 : Int32)).toNatClampNeg) := inb_of s81 ⟨by decide, by decide⟩
          have u81 : c81.slots[((1 : Int32)).toNatClampNeg]? = some (.long v46) := own_at (k := 1) t81 s81 hin81 (by decide) (rfl)
          refine own_go (fun _ k => X66.laload hx (j := (1 : Int32)) (v := (.long v46)) (by rw [e66]; exact R81.1) (State.isArrayOf_alike hZ.alike R81.2.1) R81.2.2 hin81 u81 (g := (mkF m 150 #[.val (.long q_1), .second, .val (.long q_2), .second, .val (.long q_3), .second, .val (.long q_4), .second, .val (.int p_5), .val (.long q_3), .second, .val (.long v46), .second, .val (.ref b47), .val (.ref b55), .val (.int r67), .val (.long v68), .second, .val (.long v69), .second, .val (.int (0 : Int32))] [(.int (1 : Int32)), (.ref b47)])) rfl rfl (hb hby at_150) _ k) ?_
          show own_Go _ _ _ _ T66 (mkF m 151 #[.val (.long q_1), .second, .val (.long q_2), .second, .val (.long q_3), .second, .val (.long q_4), .second, .val (.int p_5), .val (.long q_3), .second, .val (.long v46), .second, .val (.ref b47), .val (.ref b55), .val (.int r67), .val (.long v68), .second, .val (.long v69), .second, .val (.int (0 : Int32))] [(.long v46)])
          refine own_go (fun _ k => XS.lload X66.here hx rfl (hb hby at_151) rfl k) ?_
          show own_Go _ _ _ _ T66 (mkF m 153 #[.val (.long q_1), .second, .val (.long q_2), .second, .val (.long q_3), .second, .val (.long q_4), .second, .val (.int p_5), .val (.long q_3), .second, .val (.long v46), .second, .val (.ref b47), .val (.ref b55), .val (.int r67), .val (.long v68), .second, .val (.long v69), .second, .val (.int (0 : Int32))] [(.long v46), (.long v46)])
          refine own_go (fun _ k => XS.lcmp X66.here hx rfl (hb hby at_153) rfl k) ?_
          show own_Go _ _ _ _ T66 (mkF m 154 #[.val (.long q_1), .second, .val (.long q_2), .second, .val (.long q_3), .second, .val (.long q_4), .second, .val (.int p_5), .val (.long q_3), .second, .val (.long v46), .second, .val (.ref b47), .val (.ref b55), .val (.int r67), .val (.long v68), .second, .val (.long v69), .second, .val (.int (0 : Int32))] [(.int (lcmpW v46 v46))])
          have hc82 : v46 = v46 := rfl
          refine own_go (fun _ k => XS.ifNo X66.here hx rfl (hb hby at_154) rfl (Jvm.Free.XT.ll_ne_f hc82) k) ?_
          show own_Go _ _ _ _ T66 (mkF m 157 #[.val (.long q_1), .second, .val (.long q_2), .second, .val (.long q_3), .second, .val (.long q_4), .second, .val (.int p_5), .val (.long q_3), .second, .val (.long v46), .second, .val (.ref b47), .val (.ref b55), .val (.int r67), .val (.long v68), .second, .val (.long v69), .second, .val (.int (0 : Int32))] [])
          refine own_go (fun _ k => XS.iconst X66.here hx rfl (hb hby at_157) k) ?_
          show own_Go _ _ _ _ T66 (mkF m 158 #[.val (.long q_1), .second, .val (.long q_2), .second, .val (.long q_3), .second, .val (.long q_4), .second, .val (.int p_5), .val (.long q_3), .second, .val (.long v46), .second, .val (.ref b47), .val (.ref b55), .val (.int r67), .val (.long v68), .second, .val (.long v69), .second, .val (.int (0 : Int32))] [(.int (1 : Int32))])
          refine own_go (fun _ k => XS.goto X66.here hx rfl (pc0 := 158) (pc' := 162) rfl (hb hby at_158) (by decide) (by decide) k) ?_
          show own_Go _ _ _ _ T66 (mkF m 162 #[.val (.long q_1), .second, .val (.long q_2), .second, .val (.long q_3), .second, .val (.long q_4), .second, .val (.int p_5), .val (.long q_3), .second, .val (.long v46), .second, .val (.ref b47), .val (.ref b55), .val (.int r67), .val (.long v68), .second, .val (.long v69), .second, .val (.int (0 : Int32))] [(.int (1 : Int32))])
          obtain ⟨fs, hr, hrun, hended, hW, hsame⟩ := X66.leave (v := some (.int (1 : Int32))) (fun h => by rw [Bd.returns] at h; cases h)
          refine ⟨_, _, retOut X66 hx Bd.returns rfl (Or.inl ⟨rfl, Or.inr (Or.inl rfl), _, rfl⟩) (hb hby at_162) hr, hrun, hended, _, _, rfl, ?_, ⟨_, rfl⟩, hW, hsame.mono (by rw [y66]; decide) (by rw [z66]; decide)⟩
          show own_Q0 Z q_1 q_2 q_3 q_4 p_5 h0 n0 _ T66.heap _
          rw [e66]
          exact ⟨rfl, N66⟩
      · refine own_go (fun _ k => XS.ifYes X66.here hx rfl (pc0 := 106) (pc' := 127) rfl (hb hby at_106) rfl (Jvm.Free.XT.ll_ne_t hc70) (by decide) (by decide) k) ?_
        show own_Go _ _ _ _ T66 (mkF m 127 #[.val (.long q_1), .second, .val (.long q_2), .second, .val (.long q_3), .second, .val (.long q_4), .second, .val (.int p_5), .val (.long q_3), .second, .val (.long v46), .second, .val (.ref b47), .val (.ref b55), .val (.int r67), .val (.long v68), .second, .val (.long v69), .second, .unset] [])
        refine own_go (fun _ k => XS.iconst X66.here hx rfl (hb hby at_127) k) ?_
        show own_Go _ _ _ _ T66 (mkF m 128 #[.val (.long q_1), .second, .val (.long q_2), .second, .val (.long q_3), .second, .val (.long q_4), .second, .val (.int p_5), .val (.long q_3), .second, .val (.long v46), .second, .val (.ref b47), .val (.ref b55), .val (.int r67), .val (.long v68), .second, .val (.long v69), .second, .unset] [(.int (0 : Int32))])
        refine own_go (fun _ k => XS.istore X66.here hx rfl (hb hby at_128) rfl (l' := #[.val (.long q_1), .second, .val (.long q_2), .second, .val (.long q_3), .second, .val (.long q_4), .second, .val (.int p_5), .val (.long q_3), .second, .val (.long v46), .second, .val (.ref b47), .val (.ref b55), .val (.int r67), .val (.long v68), .second, .val (.long v69), .second, .val (.int (0 : Int32))]) rfl k) ?_
        show own_Go _ _ _ _ T66 (mkF m 130 #[.val (.long q_1), .second, .val (.long q_2), .second, .val (.long q_3), .second, .val (.long q_4), .second, .val (.int p_5), .val (.long q_3), .second, .val (.long v46), .second, .val (.ref b47), .val (.ref b55), .val (.int r67), .val (.long v68), .second, .val (.long v69), .second, .val (.int (0 : Int32))] [])
        refine own_go (fun _ k => XS.iload X66.here hx rfl (hb hby at_130) rfl k) ?_
        show own_Go _ _ _ _ T66 (mkF m 132 #[.val (.long q_1), .second, .val (.long q_2), .second, .val (.long q_3), .second, .val (.long q_4), .second, .val (.int p_5), .val (.long q_3), .second, .val (.long v46), .second, .val (.ref b47), .val (.ref b55), .val (.int r67), .val (.long v68), .second, .val (.long v69), .second, .val (.int (0 : Int32))] [(.int r67)])
        refine own_go (fun _ k => XS.iload X66.here hx rfl (hb hby at_132) rfl k) ?_
        show own_Go _ _ _ _ T66 (mkF m 134 #[.val (.long q_1), .second, .val (.long q_2), .second, .val (.long q_3), .second, .val (.long q_4), .second, .val (.int p_5), .val (.long q_3), .second, .val (.long v46), .second, .val (.ref b47), .val (.ref b55), .val (.int r67), .val (.long v68), .second, .val (.long v69), .second, .val (.int (0 : Int32))] [(.int (0 : Int32)), (.int r67)])
        have hc84 : r67 = (0 : Int32) := own_t0_5 q_1 q_2 q_3 q_4 v46 r67 v68 v69 hdv46 hr_r67 hdv68 hdv69 hc70
        refine own_go (fun _ k => XS.icmpNo X66.here hx rfl (hb hby at_134) rfl (Jvm.Free.XT.ii_ne_f hc84) k) ?_
        show own_Go _ _ _ _ T66 (mkF m 137 #[.val (.long q_1), .second, .val (.long q_2), .second, .val (.long q_3), .second, .val (.long q_4), .second, .val (.int p_5), .val (.long q_3), .second, .val (.long v46), .second, .val (.ref b47), .val (.ref b55), .val (.int r67), .val (.long v68), .second, .val (.long v69), .second, .val (.int (0 : Int32))] [])
        refine own_go (fun _ k => XS.aload X66.here hx rfl (hb hby at_137) rfl rfl k) ?_
        show own_Go _ _ _ _ T66 (mkF m 139 #[.val (.long q_1), .second, .val (.long q_2), .second, .val (.long q_3), .second, .val (.long q_4), .second, .val (.int p_5), .val (.long q_3), .second, .val (.long v46), .second, .val (.ref b47), .val (.ref b55), .val (.int r67), .val (.long v68), .second, .val (.long v69), .second, .val (.int (0 : Int32))] [(.ref b47)])
        refine own_go (fun _ k => XS.iconst X66.here hx rfl (hb hby at_139) k) ?_
        show own_Go _ _ _ _ T66 (mkF m 140 #[.val (.long q_1), .second, .val (.long q_2), .second, .val (.long q_3), .second, .val (.long q_4), .second, .val (.int p_5), .val (.long q_3), .second, .val (.long v46), .second, .val (.ref b47), .val (.ref b55), .val (.int r67), .val (.long v68), .second, .val (.long v69), .second, .val (.int (0 : Int32))] [(.int (0 : Int32)), (.ref b47)])
        obtain ⟨q85, c85, R85, s85, t85⟩ := id f65
        have hin85 : ¬ ((0 : Int32) < 0 ∨ c85.slots.size ≤ ((0 : Int32)).toNatClampNeg) := inb_of s85 ⟨by decide, by decide⟩
        have u85 : c85.slots[((0 : Int32)).toNatClampNeg]? = some (.long q_3) := own_at (k := 0) t85 s85 hin85 (by decide) (rfl)
        refine own_go (fun _ k => X66.laload hx (j := (0 : Int32)) (v := (.long q_3)) (by rw [e66]; exact R85.1) (State.isArrayOf_alike hZ.alike R85.2.1) R85.2.2 hin85 u85 (g := (mkF m 140 #[.val (.long q_1), .second, .val (.long q_2), .second, .val (.long q_3), .second, .val (.long q_4), .second, .val (.int p_5), .val (.long q_3), .second, .val (.long v46), .second, .val (.ref b47), .val (.ref b55), .val (.int r67), .val (.long v68), .second, .val (.long v69), .second, .val (.int (0 : Int32))] [(.int (0 : Int32)), (.ref b47)])) rfl rfl (hb hby at_140) _ k) ?_
        show own_Go _ _ _ _ T66 (mkF m 141 #[.val (.long q_1), .second, .val (.long q_2), .second, .val (.long q_3), .second, .val (.long q_4), .second, .val (.int p_5), .val (.long q_3), .second, .val (.long v46), .second, .val (.ref b47), .val (.ref b55), .val (.int r67), .val (.long v68), .second, .val (.long v69), .second, .val (.int (0 : Int32))] [(.long q_3)])
        refine own_go (fun _ k => XS.lload X66.here hx rfl (hb hby at_141) rfl k) ?_
        show own_Go _ _ _ _ T66 (mkF m 143 #[.val (.long q_1), .second, .val (.long q_2), .second, .val (.long q_3), .second, .val (.long q_4), .second, .val (.int p_5), .val (.long q_3), .second, .val (.long v46), .second, .val (.ref b47), .val (.ref b55), .val (.int r67), .val (.long v68), .second, .val (.long v69), .second, .val (.int (0 : Int32))] [(.long q_3), (.long q_3)])
        refine own_go (fun _ k => XS.lcmp X66.here hx rfl (hb hby at_143) rfl k) ?_
        show own_Go _ _ _ _ T66 (mkF m 144 #[.val (.long q_1), .second, .val (.long q_2), .second, .val (.long q_3), .second, .val (.long q_4), .second, .val (.int p_5), .val (.long q_3), .second, .val (.long v46), .second, .val (.ref b47), .val (.ref b55), .val (.int r67), .val (.long v68), .second, .val (.long v69), .second, .val (.int (0 : Int32))] [(.int (lcmpW q_3 q_3))])
        have hc86 : q_3 = q_3 := rfl
        refine own_go (fun _ k => XS.ifNo X66.here hx rfl (hb hby at_144) rfl (Jvm.Free.XT.ll_ne_f hc86) k) ?_
        show own_Go _ _ _ _ T66 (mkF m 147 #[.val (.long q_1), .second, .val (.long q_2), .second, .val (.long q_3), .second, .val (.long q_4), .second, .val (.int p_5), .val (.long q_3), .second, .val (.long v46), .second, .val (.ref b47), .val (.ref b55), .val (.int r67), .val (.long v68), .second, .val (.long v69), .second, .val (.int (0 : Int32))] [])
        refine own_go (fun _ k => XS.aload X66.here hx rfl (hb hby at_147) rfl rfl k) ?_
        show own_Go _ _ _ _ T66 (mkF m 149 #[.val (.long q_1), .second, .val (.long q_2), .second, .val (.long q_3), .second, .val (.long q_4), .second, .val (.int p_5), .val (.long q_3), .second, .val (.long v46), .second, .val (.ref b47), .val (.ref b55), .val (.int r67), .val (.long v68), .second, .val (.long v69), .second, .val (.int (0 : Int32))] [(.ref b47)])
        refine own_go (fun _ k => XS.iconst X66.here hx rfl (hb hby at_149) k) ?_
        show own_Go _ _ _ _ T66 (mkF m 150 #[.val (.long q_1), .second, .val (.long q_2), .second, .val (.long q_3), .second, .val (.long q_4), .second, .val (.int p_5), .val (.long q_3), .second, .val (.long v46), .second, .val (.ref b47), .val (.ref b55), .val (.int r67), .val (.long v68), .second, .val (.long v69), .second, .val (.int (0 : Int32))] [(.int (1 : Int32)), (.ref b47)])
        obtain ⟨q87, c87, R87, s87, t87⟩ := id f65
        have hin87 : ¬ ((1 : Int32) < 0 ∨ c87.slots.size ≤ ((1 : Int32)).toNatClampNeg) := inb_of s87 ⟨by decide, by decide⟩
        have u87 : c87.slots[((1 : Int32)).toNatClampNeg]? = some (.long v46) := own_at (k := 1) t87 s87 hin87 (by decide) (rfl)
        refine own_go (fun _ k => X66.laload hx (j := (1 : Int32)) (v := (.long v46)) (by rw [e66]; exact R87.1) (State.isArrayOf_alike hZ.alike R87.2.1) R87.2.2 hin87 u87 (g := (mkF m 150 #[.val (.long q_1), .second, .val (.long q_2), .second, .val (.long q_3), .second, .val (.long q_4), .second, .val (.int p_5), .val (.long q_3), .second, .val (.long v46), .second, .val (.ref b47), .val (.ref b55), .val (.int r67), .val (.long v68), .second, .val (.long v69), .second, .val (.int (0 : Int32))] [(.int (1 : Int32)), (.ref b47)])) rfl rfl (hb hby at_150) _ k) ?_
        show own_Go _ _ _ _ T66 (mkF m 151 #[.val (.long q_1), .second, .val (.long q_2), .second, .val (.long q_3), .second, .val (.long q_4), .second, .val (.int p_5), .val (.long q_3), .second, .val (.long v46), .second, .val (.ref b47), .val (.ref b55), .val (.int r67), .val (.long v68), .second, .val (.long v69), .second, .val (.int (0 : Int32))] [(.long v46)])
        refine own_go (fun _ k => XS.lload X66.here hx rfl (hb hby at_151) rfl k) ?_
        show own_Go _ _ _ _ T66 (mkF m 153 #[.val (.long q_1), .second, .val (.long q_2), .second, .val (.long q_3), .second, .val (.long q_4), .second, .val (.int p_5), .val (.long q_3), .second, .val (.long v46), .second, .val (.ref b47), .val (.ref b55), .val (.int r67), .val (.long v68), .second, .val (.long v69), .second, .val (.int (0 : Int32))] [(.long v46), (.long v46)])
        refine own_go (fun _ k => XS.lcmp X66.here hx rfl (hb hby at_153) rfl k) ?_
        show own_Go _ _ _ _ T66 (mkF m 154 #[.val (.long q_1), .second, .val (.long q_2), .second, .val (.long q_3), .second, .val (.long q_4), .second, .val (.int p_5), .val (.long q_3), .second, .val (.long v46), .second, .val (.ref b47), .val (.ref b55), .val (.int r67), .val (.long v68), .second, .val (.long v69), .second, .val (.int (0 : Int32))] [(.int (lcmpW v46 v46))])
        have hc88 : v46 = v46 := rfl
        refine own_go (fun _ k => XS.ifNo X66.here hx rfl (hb hby at_154) rfl (Jvm.Free.XT.ll_ne_f hc88) k) ?_
        show own_Go _ _ _ _ T66 (mkF m 157 #[.val (.long q_1), .second, .val (.long q_2), .second, .val (.long q_3), .second, .val (.long q_4), .second, .val (.int p_5), .val (.long q_3), .second, .val (.long v46), .second, .val (.ref b47), .val (.ref b55), .val (.int r67), .val (.long v68), .second, .val (.long v69), .second, .val (.int (0 : Int32))] [])
        refine own_go (fun _ k => XS.iconst X66.here hx rfl (hb hby at_157) k) ?_
        show own_Go _ _ _ _ T66 (mkF m 158 #[.val (.long q_1), .second, .val (.long q_2), .second, .val (.long q_3), .second, .val (.long q_4), .second, .val (.int p_5), .val (.long q_3), .second, .val (.long v46), .second, .val (.ref b47), .val (.ref b55), .val (.int r67), .val (.long v68), .second, .val (.long v69), .second, .val (.int (0 : Int32))] [(.int (1 : Int32))])
        refine own_go (fun _ k => XS.goto X66.here hx rfl (pc0 := 158) (pc' := 162) rfl (hb hby at_158) (by decide) (by decide) k) ?_
        show own_Go _ _ _ _ T66 (mkF m 162 #[.val (.long q_1), .second, .val (.long q_2), .second, .val (.long q_3), .second, .val (.long q_4), .second, .val (.int p_5), .val (.long q_3), .second, .val (.long v46), .second, .val (.ref b47), .val (.ref b55), .val (.int r67), .val (.long v68), .second, .val (.long v69), .second, .val (.int (0 : Int32))] [(.int (1 : Int32))])
        obtain ⟨fs, hr, hrun, hended, hW, hsame⟩ := X66.leave (v := some (.int (1 : Int32))) (fun h => by rw [Bd.returns] at h; cases h)
        refine ⟨_, _, retOut X66 hx Bd.returns rfl (Or.inl ⟨rfl, Or.inr (Or.inl rfl), _, rfl⟩) (hb hby at_162) hr, hrun, hended, _, _, rfl, ?_, ⟨_, rfl⟩, hW, hsame.mono (by rw [y66]; decide) (by rw [z66]; decide)⟩
        show own_Q0 Z q_1 q_2 q_3 q_4 p_5 h0 n0 _ T66.heap _
        rw [e66]
        exact ⟨rfl, N66⟩
  · refine own_go (fun _ k => XS.ifNo X0.here hx rfl (hb hby at_4) rfl (Jvm.Free.XT.i0_eq_f hc1) k) ?_
    show own_Go _ _ _ _ s₁ (mkF m 7 #[.val (.long q_1), .second, .val (.long q_2), .second, .val (.long q_3), .second, .val (.long q_4), .second, .val (.int p_5), .unset, .unset, .unset, .unset, .unset, .unset, .unset, .unset, .unset, .unset, .unset, .unset] [])
    refine own_go (fun _ k => XS.lload X0.here hx rfl (hb hby at_7) rfl k) ?_
    show own_Go _ _ _ _ s₁ (mkF m 9 #[.val (.long q_1), .second, .val (.long q_2), .second, .val (.long q_3), .second, .val (.long q_4), .second, .val (.int p_5), .unset, .unset, .unset, .unset, .unset, .unset, .unset, .unset, .unset, .unset, .unset, .unset] [(.long q_3)])
    refine own_go (fun _ k => XS.lloadN X0.here hx rfl (hb hby at_9) rfl k) ?_
    show own_Go _ _ _ _ s₁ (mkF m 10 #[.val (.long q_1), .second, .val (.long q_2), .second, .val (.long q_3), .second, .val (.long q_4), .second, .val (.int p_5), .unset, .unset, .unset, .unset, .unset, .unset, .unset, .unset, .unset, .unset, .unset, .unset] [(.long q_1), (.long q_3)])
    refine own_go (fun _ k => XS.land X0.here hx rfl (hb hby at_10) rfl k) ?_
    show own_Go _ _ _ _ s₁ (mkF m 11 #[.val (.long q_1), .second, .val (.long q_2), .second, .val (.long q_3), .second, .val (.long q_4), .second, .val (.int p_5), .unset, .unset, .unset, .unset, .unset, .unset, .unset, .unset, .unset, .unset, .unset, .unset] [(.long (q_3 &&& q_1))])
    refine own_go (fun _ k => XS.lloadN X0.here hx rfl (hb hby at_11) rfl k) ?_
    show own_Go _ _ _ _ s₁ (mkF m 12 #[.val (.long q_1), .second, .val (.long q_2), .second, .val (.long q_3), .second, .val (.long q_4), .second, .val (.int p_5), .unset, .unset, .unset, .unset, .unset, .unset, .unset, .unset, .unset, .unset, .unset, .unset] [(.long q_2), (.long (q_3 &&& q_1))])
    refine own_go (fun _ k => XS.land X0.here hx rfl (hb hby at_12) rfl k) ?_
    show own_Go _ _ _ _ s₁ (mkF m 13 #[.val (.long q_1), .second, .val (.long q_2), .second, .val (.long q_3), .second, .val (.long q_4), .second, .val (.int p_5), .unset, .unset, .unset, .unset, .unset, .unset, .unset, .unset, .unset, .unset, .unset, .unset] [(.long ((q_3 &&& q_1) &&& q_2))])
    refine own_go (fun _ k => XS.goto X0.here hx rfl (pc0 := 13) (pc' := 18) rfl (hb hby at_13) (by decide) (by decide) k) ?_
    show own_Go _ _ _ _ s₁ (mkF m 18 #[.val (.long q_1), .second, .val (.long q_2), .second, .val (.long q_3), .second, .val (.long q_4), .second, .val (.int p_5), .unset, .unset, .unset, .unset, .unset, .unset, .unset, .unset, .unset, .unset, .unset, .unset] [(.long ((q_3 &&& q_1) &&& q_2))])
    refine own_go (fun _ k => XS.lstore X0.here hx rfl (hb hby at_18) rfl (l' := #[.val (.long q_1), .second, .val (.long q_2), .second, .val (.long q_3), .second, .val (.long q_4), .second, .val (.int p_5), .val (.long ((q_3 &&& q_1) &&& q_2)), .second, .unset, .unset, .unset, .unset, .unset, .unset, .unset, .unset, .unset, .unset]) rfl k) ?_
    show own_Go _ _ _ _ s₁ (mkF m 20 #[.val (.long q_1), .second, .val (.long q_2), .second, .val (.long q_3), .second, .val (.long q_4), .second, .val (.int p_5), .val (.long ((q_3 &&& q_1) &&& q_2)), .second, .unset, .unset, .unset, .unset, .unset, .unset, .unset, .unset, .unset, .unset] [])
    generalize hdv90 : ((q_3 &&& q_1) &&& q_2) = v90
    show own_Go _ _ _ _ s₁ (mkF m 20 #[.val (.long q_1), .second, .val (.long q_2), .second, .val (.long q_3), .second, .val (.long q_4), .second, .val (.int p_5), .val (.long v90), .second, .unset, .unset, .unset, .unset, .unset, .unset, .unset, .unset, .unset, .unset] [])
    refine own_go (fun _ k => XS.iload X0.here hx rfl (hb hby at_20) rfl k) ?_
    show own_Go _ _ _ _ s₁ (mkF m 22 #[.val (.long q_1), .second, .val (.long q_2), .second, .val (.long q_3), .second, .val (.long q_4), .second, .val (.int p_5), .val (.long v90), .second, .unset, .unset, .unset, .unset, .unset, .unset, .unset, .unset, .unset, .unset] [(.int p_5)])
    refine own_go (fun _ k => XS.iconst X0.here hx rfl (hb hby at_22) k) ?_
    show own_Go _ _ _ _ s₁ (mkF m 23 #[.val (.long q_1), .second, .val (.long q_2), .second, .val (.long q_3), .second, .val (.long q_4), .second, .val (.int p_5), .val (.long v90), .second, .unset, .unset, .unset, .unset, .unset, .unset, .unset, .unset, .unset, .unset] [(.int (2 : Int32)), (.int p_5)])
    refine own_go (fun _ k => XS.iand X0.here hx rfl (hb hby at_23) rfl k) ?_
    show own_Go _ _ _ _ s₁ (mkF m 24 #[.val (.long q_1), .second, .val (.long q_2), .second, .val (.long q_3), .second, .val (.long q_4), .second, .val (.int p_5), .val (.long v90), .second, .unset, .unset, .unset, .unset, .unset, .unset, .unset, .unset, .unset, .unset] [(.int (p_5 &&& (2 : Int32)))])
    by_cases hc91 : (p_5 &&& (2 : Int32)) = 0
    · refine own_go (fun _ k => XS.ifYes X0.here hx rfl (pc0 := 24) (pc' := 40) rfl (hb hby at_24) rfl (Jvm.Free.XT.i0_eq_t hc91) (by decide) (by decide) k) ?_
      show own_Go _ _ _ _ s₁ (mkF m 40 #[.val (.long q_1), .second, .val (.long q_2), .second, .val (.long q_3), .second, .val (.long q_4), .second, .val (.int p_5), .val (.long v90), .second, .unset, .unset, .unset, .unset, .unset, .unset, .unset, .unset, .unset, .unset] [])
      refine own_go (fun _ k => XS.lload X0.here hx rfl (hb hby at_40) rfl k) ?_
      show own_Go _ _ _ _ s₁ (mkF m 42 #[.val (.long q_1), .second, .val (.long q_2), .second, .val (.long q_3), .second, .val (.long q_4), .second, .val (.int p_5), .val (.long v90), .second, .unset, .unset, .unset, .unset, .unset, .unset, .unset, .unset, .unset, .unset] [(.long q_4)])
      refine own_go (fun _ k => XS.lstore X0.here hx rfl (hb hby at_42) rfl (l' := #[.val (.long q_1), .second, .val (.long q_2), .second, .val (.long q_3), .second, .val (.long q_4), .second, .val (.int p_5), .val (.long v90), .second, .val (.long q_4), .second, .unset, .unset, .unset, .unset, .unset, .unset, .unset, .unset]) rfl k) ?_
      show own_Go _ _ _ _ s₁ (mkF m 44 #[.val (.long q_1), .second, .val (.long q_2), .second, .val (.long q_3), .second, .val (.long q_4), .second, .val (.int p_5), .val (.long v90), .second, .val (.long q_4), .second, .unset, .unset, .unset, .unset, .unset, .unset, .unset, .unset] [])
      refine own_go (fun _ k => XS.iconst X0.here hx rfl (hb hby at_44) k) ?_
      show own_Go _ _ _ _ s₁ (mkF m 45 #[.val (.long q_1), .second, .val (.long q_2), .second, .val (.long q_3), .second, .val (.long q_4), .second, .val (.int p_5), .val (.long v90), .second, .val (.long q_4), .second, .unset, .unset, .unset, .unset, .unset, .unset, .unset, .unset] [(.int (2 : Int32))])
      obtain ⟨T92, h92, k92, X92, e92, E92, A92, st92⟩ := newP X0 hx hZ (hw _ (List.mem_of_getElem? (i := 1) rfl)) e0 (g := (mkF m 45 #[.val (.long q_1), .second, .val (.long q_2), .second, .val (.long q_3), .second, .val (.long q_4), .second, .val (.int p_5), .val (.long v90), .second, .val (.long q_4), .second, .unset, .unset, .unset, .unset, .unset, .unset, .unset, .unset] [(.int (2 : Int32))])) rfl (hb hby at_45) rfl (by decide) (cap := 2) (by decide) (by decide) (by decide) (by decide)
      obtain ⟨b92, g92⟩ : ∃ z, z = h0.size := ⟨_, rfl⟩
      rw [← g92] at A92 st92
      have z93 := E92.1
      have lt_b92 := own_lt A92.lt
      have V_b92 : own_AV Z h92 b92 .long (2 : Int32) (fun _ => (.long (0 : Int64))) := own_AV.new A92 (by decide)
      refine own_go (fun _ k => st92 _ k) ?_
      show own_Go _ _ _ _ T92 (mkF m 47 #[.val (.long q_1), .second, .val (.long q_2), .second, .val (.long q_3), .second, .val (.long q_4), .second, .val (.int p_5), .val (.long v90), .second, .val (.long q_4), .second, .unset, .unset, .unset, .unset, .unset, .unset, .unset, .unset] [(.ref b92)])
      refine own_go (fun _ k => XS.astore X92.here hx rfl (hb hby at_47) rfl rfl (l' := #[.val (.long q_1), .second, .val (.long q_2), .second, .val (.long q_3), .second, .val (.long q_4), .second, .val (.int p_5), .val (.long v90), .second, .val (.long q_4), .second, .val (.ref b92), .unset, .unset, .unset, .unset, .unset, .unset, .unset]) rfl k) ?_
      show own_Go _ _ _ _ T92 (mkF m 49 #[.val (.long q_1), .second, .val (.long q_2), .second, .val (.long q_3), .second, .val (.long q_4), .second, .val (.int p_5), .val (.long v90), .second, .val (.long q_4), .second, .val (.ref b92), .unset, .unset, .unset, .unset, .unset, .unset, .unset] [])
      refine own_go (fun _ k => XS.aload X92.here hx rfl (hb hby at_49) rfl rfl k) ?_
      show own_Go _ _ _ _ T92 (mkF m 51 #[.val (.long q_1), .second, .val (.long q_2), .second, .val (.long q_3), .second, .val (.long q_4), .second, .val (.int p_5), .val (.long v90), .second, .val (.long q_4), .second, .val (.ref b92), .unset, .unset, .unset, .unset, .unset, .unset, .unset] [(.ref b92)])
      refine own_go (fun _ k => XS.iconst X92.here hx rfl (hb hby at_51) k) ?_
      show own_Go _ _ _ _ T92 (mkF m 52 #[.val (.long q_1), .second, .val (.long q_2), .second, .val (.long q_3), .second, .val (.long q_4), .second, .val (.int p_5), .val (.long v90), .second, .val (.long q_4), .second, .val (.ref b92), .unset, .unset, .unset, .unset, .unset, .unset, .unset] [(.int (0 : Int32)), (.ref b92)])
      refine own_go (fun _ k => XS.lload X92.here hx rfl (hb hby at_52) rfl k) ?_
      show own_Go _ _ _ _ T92 (mkF m 54 #[.val (.long q_1), .second, .val (.long q_2), .second, .val (.long q_3), .second, .val (.long q_4), .second, .val (.int p_5), .val (.long v90), .second, .val (.long q_4), .second, .val (.ref b92), .unset, .unset, .unset, .unset, .unset, .unset, .unset] [(.long v90), (.int (0 : Int32)), (.ref b92)])
      obtain ⟨q94, c94, R94, s94, t94⟩ := id V_b92
      have hin94 : ¬ ((0 : Int32) < 0 ∨ c94.slots.size ≤ ((0 : Int32)).toNatClampNeg) := inb_of s94 ⟨by decide, by decide⟩
      obtain ⟨T95, h95, X95, e95, W95, st95⟩ := stJ X92 hx hZ e92 R94 (j := (0 : Int32)) hin94 (g := (mkF m 54 #[.val (.long q_1), .second, .val (.long q_2), .second, .val (.long q_3), .second, .val (.long q_4), .second, .val (.int p_5), .val (.long v90), .second, .val (.long q_4), .second, .val (.ref b92), .unset, .unset, .unset, .unset, .unset, .unset, .unset] [(.long v90), (.int (0 : Int32)), (.ref b92)])) rfl rfl (hb hby at_54)
      have V95 : own_AV Z h95 b92 .long (2 : Int32) (own_upd (fun _ => (.long (0 : Int64))) 0 (.long v90)) := own_AV.set (k := 0) V_b92 W95 (by decide)
      have z96 := W95.size
      have N95 := Fr.snoc X95 N0 (by omega : n0 ≤ b92)
      refine own_go (fun _ k => st95 _ k) ?_
      show own_Go _ _ _ _ T95 (mkF m 55 #[.val (.long q_1), .second, .val (.long q_2), .second, .val (.long q_3), .second, .val (.long q_4), .second, .val (.int p_5), .val (.long v90), .second, .val (.long q_4), .second, .val (.ref b92), .unset, .unset, .unset, .unset, .unset, .unset, .unset] [])
      refine own_go (fun _ k => XS.aload X95.here hx rfl (hb hby at_55) rfl rfl k) ?_
      show own_Go _ _ _ _ T95 (mkF m 57 #[.val (.long q_1), .second, .val (.long q_2), .second, .val (.long q_3), .second, .val (.long q_4), .second, .val (.int p_5), .val (.long v90), .second, .val (.long q_4), .second, .val (.ref b92), .unset, .unset, .unset, .unset, .unset, .unset, .unset] [(.ref b92)])
      refine own_go (fun _ k => XS.iconst X95.here hx rfl (hb hby at_57) k) ?_
      show own_Go _ _ _ _ T95 (mkF m 58 #[.val (.long q_1), .second, .val (.long q_2), .second, .val (.long q_3), .second, .val (.long q_4), .second, .val (.int p_5), .val (.long v90), .second, .val (.long q_4), .second, .val (.ref b92), .unset, .unset, .unset, .unset, .unset, .unset, .unset] [(.int (1 : Int32)), (.ref b92)])
      refine own_go (fun _ k => XS.lload X95.here hx rfl (hb hby at_58) rfl k) ?_
      show own_Go _ _ _ _ T95 (mkF m 60 #[.val (.long q_1), .second, .val (.long q_2), .second, .val (.long q_3), .second, .val (.long q_4), .second, .val (.int p_5), .val (.long v90), .second, .val (.long q_4), .second, .val (.ref b92), .unset, .unset, .unset, .unset, .unset, .unset, .unset] [(.long q_4), (.int (1 : Int32)), (.ref b92)])
      obtain ⟨q97, c97, R97, s97, t97⟩ := id V95
      have hin97 : ¬ ((1 : Int32) < 0 ∨ c97.slots.size ≤ ((1 : Int32)).toNatClampNeg) := inb_of s97 ⟨by decide, by decide⟩
      obtain ⟨T98, h98, X98, e98, W98, st98⟩ := stJ X95 hx hZ e95 R97 (j := (1 : Int32)) hin97 (g := (mkF m 60 #[.val (.long q_1), .second, .val (.long q_2), .second, .val (.long q_3), .second, .val (.long q_4), .second, .val (.int p_5), .val (.long v90), .second, .val (.long q_4), .second, .val (.ref b92), .unset, .unset, .unset, .unset, .unset, .unset, .unset] [(.long q_4), (.int (1 : Int32)), (.ref b92)])) rfl rfl (hb hby at_60)
      have V98 : own_AV Z h98 b92 .long (2 : Int32) (own_upd (own_upd (fun _ => (.long (0 : Int64))) 0 (.long v90)) 1 (.long q_4)) := own_AV.set (k := 1) V95 W98 (by decide)
      have z99 := W98.size
      have N98 := Fr.snoc X98 N95 (by omega : n0 ≤ b92)
      refine own_go (fun _ k => st98 _ k) ?_
      show own_Go _ _ _ _ T98 (mkF m 61 #[.val (.long q_1), .second, .val (.long q_2), .second, .val (.long q_3), .second, .val (.long q_4), .second, .val (.int p_5), .val (.long v90), .second, .val (.long q_4), .second, .val (.ref b92), .unset, .unset, .unset, .unset, .unset, .unset, .unset] [])
      obtain ⟨T100, h100, X100, e100, E100, A100, D100, Y100, st100⟩ := newO X98 hx hZ hown (hw _ (List.mem_of_getElem? (i := 2) rfl)) (hw _ (List.mem_of_getElem? (i := 3) rfl)) (hw _ (List.mem_of_getElem? (i := 4) rfl)) e98 (g := (mkF m 61 #[.val (.long q_1), .second, .val (.long q_2), .second, .val (.long q_3), .second, .val (.long q_4), .second, .val (.int p_5), .val (.long v90), .second, .val (.long q_4), .second, .val (.ref b92), .unset, .unset, .unset, .unset, .unset, .unset, .unset] [])) rfl (hb hby at_61) (by decide) (by decide)
      obtain ⟨b100, g100⟩ : ∃ z, z = h98.size := ⟨_, rfl⟩
      rw [← g100] at A100 D100 Y100 st100
      have z101 := E100.1
      have lt_b100 := own_lt A100.lt
      have F_observed_b100 : Fld Z h100 b100 "com/example/epsilonet/epsilonet/service/ObservationTree$Outcome" "observed" "J" (.long (0 : Int64)) := D100 (Or.inr (hw _ (List.mem_of_getElem? (i := 17) rfl))) (ty := .long) (by decide)
      have F_values_b100 : Fld Z h100 b100 "com/example/epsilonet/epsilonet/service/ObservationTree$Outcome" "values" "J" (.long (0 : Int64)) := D100 (Or.inr (hw _ (List.mem_of_getElem? (i := 19) rfl))) (ty := .long) (by decide)
      refine own_go (fun _ k => st100 _ k) ?_
      show own_Go _ _ _ _ T100 (mkF m 64 #[.val (.long q_1), .second, .val (.long q_2), .second, .val (.long q_3), .second, .val (.long q_4), .second, .val (.int p_5), .val (.long v90), .second, .val (.long q_4), .second, .val (.ref b92), .unset, .unset, .unset, .unset, .unset, .unset, .unset] [(.ref b100)])
      refine own_go (fun _ k => XS.dup X100.here hx rfl (hb hby at_64) rfl rfl k) ?_
      show own_Go _ _ _ _ T100 (mkF m 65 #[.val (.long q_1), .second, .val (.long q_2), .second, .val (.long q_3), .second, .val (.long q_4), .second, .val (.int p_5), .val (.long v90), .second, .val (.long q_4), .second, .val (.ref b92), .unset, .unset, .unset, .unset, .unset, .unset, .unset] [(.ref b100), (.ref b100)])
      refine own_go (fun _ k => XS.lloadN X100.here hx rfl (hb hby at_65) rfl k) ?_
      show own_Go _ _ _ _ T100 (mkF m 66 #[.val (.long q_1), .second, .val (.long q_2), .second, .val (.long q_3), .second, .val (.long q_4), .second, .val (.int p_5), .val (.long v90), .second, .val (.long q_4), .second, .val (.ref b92), .unset, .unset, .unset, .unset, .unset, .unset, .unset] [(.long q_1), (.ref b100), (.ref b100)])
      refine own_go (fun _ k => XS.lloadN X100.here hx rfl (hb hby at_66) rfl k) ?_
      show own_Go _ _ _ _ T100 (mkF m 67 #[.val (.long q_1), .second, .val (.long q_2), .second, .val (.long q_3), .second, .val (.long q_4), .second, .val (.int p_5), .val (.long v90), .second, .val (.long q_4), .second, .val (.ref b92), .unset, .unset, .unset, .unset, .unset, .unset, .unset] [(.long q_2), (.long q_1), (.ref b100), (.ref b100)])
      obtain ⟨_, _, ⟨T102, L102, k102, n102⟩, -, X102, ⟨Lc102, hQ102, l102, y102, z102⟩, st102⟩ := X100.specialBack hx (y := (⟨"com/example/epsilonet/epsilonet/service/ObservationTree$Outcome", "<init>", "(JJ)V"⟩ : MethodName)) rfl hown (mvT hZ (hw _ (List.mem_of_getElem? (i := 5) rfl))) (mvT hZ (hw _ (List.mem_of_getElem? (i := 6) rfl))) (mvT hZ (hw _ (List.mem_of_getElem? (i := 7) rfl))) (by decide) (backOf (W := 1) (own_rm1 l Z a0 hw [] b100 q_1 q_2 (0 : Int64) (0 : Int64) h100 n0 (by omega) A100 F_observed_b100 F_values_b100 (by omega)) hZ (hw _ (List.mem_of_getElem? (i := 7) rfl)) (hw _ (List.mem_of_getElem? (i := 4) rfl)) (by decide) (by decide)) (g := (mkF m 67 #[.val (.long q_1), .second, .val (.long q_2), .second, .val (.long q_3), .second, .val (.long q_4), .second, .val (.int p_5), .val (.long v90), .second, .val (.long q_4), .second, .val (.ref b92), .unset, .unset, .unset, .unset, .unset, .unset, .unset] [(.long q_2), (.long q_1), (.ref b100), (.ref b100)])) rfl (by rw [hml]; rfl) (Steps.refl _) (a := b100) (argsL := [(.long q_1), (.long q_2)]) (rest := [(.ref b100)]) (lenOf own_pd1 rfl) rfl (by show 2 * 0 + _ ≤ _; exact Nat.le_of_eq rfl) (hb hby at_67) (fun _ _ => ⟨rfl, e100, (by decide : 2 + 0 ≤ _), (by decide : 4 + 0 ≤ _)⟩)
      dsimp only [Pt.U, Pt.locs, Pt.cells, Pt.slots] at X102 l102 y102 z102 st102 hQ102
      have y102 : k102 = 2 := y102
      have z102 : n102 = 4 := z102
      obtain ⟨rfl, N102q, K102q, f103, f104, f105⟩ := hQ102
      have N102 : Fr n0 L102 := by rw [l102]; exact Fr.app N98 N102q
      have z106 := K102q.1
      have z107 := own_lt f103.lt
      have z108 := own_lt f104.lt
      have z109 := own_lt f105.lt
      refine own_go (fun _ k => st102.trans k) ?_
      show own_Go _ _ _ _ T102 (mkF m 70 #[.val (.long q_1), .second, .val (.long q_2), .second, .val (.long q_3), .second, .val (.long q_4), .second, .val (.int p_5), .val (.long v90), .second, .val (.long q_4), .second, .val (.ref b92), .unset, .unset, .unset, .unset, .unset, .unset, .unset] [(.ref b100)])
      refine own_go (fun _ k => XS.astore X102.here hx rfl (hb hby at_70) rfl rfl (l' := #[.val (.long q_1), .second, .val (.long q_2), .second, .val (.long q_3), .second, .val (.long q_4), .second, .val (.int p_5), .val (.long v90), .second, .val (.long q_4), .second, .val (.ref b92), .val (.ref b100), .unset, .unset, .unset, .unset, .unset, .unset]) rfl k) ?_
      show own_Go _ _ _ _ T102 (mkF m 72 #[.val (.long q_1), .second, .val (.long q_2), .second, .val (.long q_3), .second, .val (.long q_4), .second, .val (.int p_5), .val (.long v90), .second, .val (.long q_4), .second, .val (.ref b92), .val (.ref b100), .unset, .unset, .unset, .unset, .unset, .unset] [])
      refine own_go (fun _ k => XS.aload X102.here hx rfl (hb hby at_72) rfl rfl k) ?_
      show own_Go _ _ _ _ T102 (mkF m 74 #[.val (.long q_1), .second, .val (.long q_2), .second, .val (.long q_3), .second, .val (.long q_4), .second, .val (.int p_5), .val (.long v90), .second, .val (.long q_4), .second, .val (.ref b92), .val (.ref b100), .unset, .unset, .unset, .unset, .unset, .unset] [(.ref b100)])
      refine own_go (fun _ k => XS.aload X102.here hx rfl (hb hby at_74) rfl rfl k) ?_
      show own_Go _ _ _ _ T102 (mkF m 76 #[.val (.long q_1), .second, .val (.long q_2), .second, .val (.long q_3), .second, .val (.long q_4), .second, .val (.int p_5), .val (.long v90), .second, .val (.long q_4), .second, .val (.ref b92), .val (.ref b100), .unset, .unset, .unset, .unset, .unset, .unset] [(.ref b92), (.ref b100)])
      have f110 : own_AV Z T102.heap b92 .long (2 : Int32) (own_upd (own_upd (fun _ => (.long (0 : Int64))) 0 (.long v90)) 1 (.long q_4)) := ((V98.ext E100).keep K102q (ninS (own_ne (by omega)) nin0))
      obtain ⟨cq111, kq111, q111a, q111b, q111c⟩ := isOf hZ rfl f103
      obtain ⟨_, _, ⟨T111, L111, k111, n111⟩, -, X111, ⟨Lc111, hQ111, l111, y111, z111⟩, st111⟩ := X102.virtualBack hx (y := (⟨"com/example/epsilonet/epsilonet/service/ObservationTree$Outcome", "makesHold", "([J)Z"⟩ : MethodName)) (z := (⟨"com/example/epsilonet/epsilonet/service/ObservationTree$Outcome", "makesHold", "([J)Z"⟩ : MethodName)) hown (mvT hZ (hw _ (List.mem_of_getElem? (i := 20) rfl))) (mvT hZ (hw _ (List.mem_of_getElem? (i := 21) rfl))) (notFace_of_selects (args := #[]) (mvT hZ (hw _ (List.mem_of_getElem? (i := 23) rfl)))) (mvT hZ (hw _ (List.mem_of_getElem? (i := 23) rfl))) (mvT hZ (hw _ (List.mem_of_getElem? (i := 22) rfl))) (by decide) (backOf (W := 0) (own_rm4 l Z a0 hw [] b100 b92 v90 q_4 q_1 q_2 T102.heap n0 (by omega) f110 f104 f105) hZ (hw _ (List.mem_of_getElem? (i := 24) rfl)) (hw _ (List.mem_of_getElem? (i := 4) rfl)) (by decide) (by decide)) q111a q111c (g := (mkF m 76 #[.val (.long q_1), .second, .val (.long q_2), .second, .val (.long q_3), .second, .val (.long q_4), .second, .val (.int p_5), .val (.long v90), .second, .val (.long q_4), .second, .val (.ref b92), .val (.ref b100), .unset, .unset, .unset, .unset, .unset, .unset] [(.ref b92), (.ref b100)])) rfl (by rw [hml]; rfl) (Steps.refl _) (argsL := [(.ref b92)]) (rest := []) (lenOf own_pd2 rfl) rfl (by show 2 * 0 + _ ≤ _; exact Nat.le_of_eq rfl) (hb hby at_76) (fun _ _ => ⟨rfl, rfl, (by show k102 + _ ≤ _; rw [y102]; decide), (by show n102 + _ ≤ _; rw [z102]; decide)⟩)
      dsimp only [Pt.U, Pt.locs, Pt.cells, Pt.slots] at X111 l111 y111 z111 st111 hQ111
      have y111 : k111 = 2 := own_addeq y111 (congrArg (fun q => q) y102) rfl
      have z111 : n111 = 4 := own_addeq z111 (congrArg (fun q => q) z102) rfl
      obtain ⟨r112, rfl, N111q, hr_r112, e111⟩ := hQ111
      have N111 : Fr n0 L111 := by rw [l111]; exact Fr.app N102 N111q
      refine own_go (fun _ k => st111.trans k) ?_
      show own_Go _ _ _ _ T111 (mkF m 79 #[.val (.long q_1), .second, .val (.long q_2), .second, .val (.long q_3), .second, .val (.long q_4), .second, .val (.int p_5), .val (.long v90), .second, .val (.long q_4), .second, .val (.ref b92), .val (.ref b100), .unset, .unset, .unset, .unset, .unset, .unset] [(.int r112)])
      refine own_go (fun _ k => XS.istore X111.here hx rfl (hb hby at_79) rfl (l' := #[.val (.long q_1), .second, .val (.long q_2), .second, .val (.long q_3), .second, .val (.long q_4), .second, .val (.int p_5), .val (.long v90), .second, .val (.long q_4), .second, .val (.ref b92), .val (.ref b100), .val (.int r112), .unset, .unset, .unset, .unset, .unset]) rfl k) ?_
      show own_Go _ _ _ _ T111 (mkF m 81 #[.val (.long q_1), .second, .val (.long q_2), .second, .val (.long q_3), .second, .val (.long q_4), .second, .val (.int p_5), .val (.long v90), .second, .val (.long q_4), .second, .val (.ref b92), .val (.ref b100), .val (.int r112), .unset, .unset, .unset, .unset, .unset] [])
      refine own_go (fun _ k => XS.lloadN X111.here hx rfl (hb hby at_81) rfl k) ?_
      show own_Go _ _ _ _ T111 (mkF m 82 #[.val (.long q_1), .second, .val (.long q_2), .second, .val (.long q_3), .second, .val (.long q_4), .second, .val (.int p_5), .val (.long v90), .second, .val (.long q_4), .second, .val (.ref b92), .val (.ref b100), .val (.int r112), .unset, .unset, .unset, .unset, .unset] [(.long q_1)])
      refine own_go (fun _ k => XS.lloadN X111.here hx rfl (hb hby at_82) rfl k) ?_
      show own_Go _ _ _ _ T111 (mkF m 83 #[.val (.long q_1), .second, .val (.long q_2), .second, .val (.long q_3), .second, .val (.long q_4), .second, .val (.int p_5), .val (.long v90), .second, .val (.long q_4), .second, .val (.ref b92), .val (.ref b100), .val (.int r112), .unset, .unset, .unset, .unset, .unset] [(.long q_2), (.long q_1)])
      refine own_go (fun _ k => XS.land X111.here hx rfl (hb hby at_83) rfl k) ?_
      show own_Go _ _ _ _ T111 (mkF m 84 #[.val (.long q_1), .second, .val (.long q_2), .second, .val (.long q_3), .second, .val (.long q_4), .second, .val (.int p_5), .val (.long v90), .second, .val (.long q_4), .second, .val (.ref b92), .val (.ref b100), .val (.int r112), .unset, .unset, .unset, .unset, .unset] [(.long (q_1 &&& q_2))])
      refine own_go (fun _ k => XS.lstore X111.here hx rfl (hb hby at_84) rfl (l' := #[.val (.long q_1), .second, .val (.long q_2), .second, .val (.long q_3), .second, .val (.long q_4), .second, .val (.int p_5), .val (.long v90), .second, .val (.long q_4), .second, .val (.ref b92), .val (.ref b100), .val (.int r112), .val (.long (q_1 &&& q_2)), .second, .unset, .unset, .unset]) rfl k) ?_
      show own_Go _ _ _ _ T111 (mkF m 86 #[.val (.long q_1), .second, .val (.long q_2), .second, .val (.long q_3), .second, .val (.long q_4), .second, .val (.int p_5), .val (.long v90), .second, .val (.long q_4), .second, .val (.ref b92), .val (.ref b100), .val (.int r112), .val (.long (q_1 &&& q_2)), .second, .unset, .unset, .unset] [])
      generalize hdv113 : (q_1 &&& q_2) = v113
      show own_Go _ _ _ _ T111 (mkF m 86 #[.val (.long q_1), .second, .val (.long q_2), .second, .val (.long q_3), .second, .val (.long q_4), .second, .val (.int p_5), .val (.long v90), .second, .val (.long q_4), .second, .val (.ref b92), .val (.ref b100), .val (.int r112), .val (.long v113), .second, .unset, .unset, .unset] [])
      refine own_go (fun _ k => XS.lloadN X111.here hx rfl (hb hby at_86) rfl k) ?_
      show own_Go _ _ _ _ T111 (mkF m 87 #[.val (.long q_1), .second, .val (.long q_2), .second, .val (.long q_3), .second, .val (.long q_4), .second, .val (.int p_5), .val (.long v90), .second, .val (.long q_4), .second, .val (.ref b92), .val (.ref b100), .val (.int r112), .val (.long v113), .second, .unset, .unset, .unset] [(.long q_1)])
      refine own_go (fun _ k => XS.lloadN X111.here hx rfl (hb hby at_87) rfl k) ?_
      show own_Go _ _ _ _ T111 (mkF m 88 #[.val (.long q_1), .second, .val (.long q_2), .second, .val (.long q_3), .second, .val (.long q_4), .second, .val (.int p_5), .val (.long v90), .second, .val (.long q_4), .second, .val (.ref b92), .val (.ref b100), .val (.int r112), .val (.long v113), .second, .unset, .unset, .unset] [(.long q_2), (.long q_1)])
      refine own_go (fun _ k => X111.ldc2Long hx hown (mvT hZ (hw _ (List.mem_of_getElem? (i := 0) rfl))) (g := (mkF m 88 #[.val (.long q_1), .second, .val (.long q_2), .second, .val (.long q_3), .second, .val (.long q_4), .second, .val (.int p_5), .val (.long v90), .second, .val (.long q_4), .second, .val (.ref b92), .val (.ref b100), .val (.int r112), .val (.long v113), .second, .unset, .unset, .unset] [(.long q_2), (.long q_1)])) rfl (hb hby at_88) _ k) ?_
      show own_Go _ _ _ _ T111 (mkF m 91 #[.val (.long q_1), .second, .val (.long q_2), .second, .val (.long q_3), .second, .val (.long q_4), .second, .val (.int p_5), .val (.long v90), .second, .val (.long q_4), .second, .val (.ref b92), .val (.ref b100), .val (.int r112), .val (.long v113), .second, .unset, .unset, .unset] [(.long (-1 : Int64)), (.long q_2), (.long q_1)])
      refine own_go (fun _ k => XS.lxor X111.here hx rfl (hb hby at_91) rfl k) ?_
      show own_Go _ _ _ _ T111 (mkF m 92 #[.val (.long q_1), .second, .val (.long q_2), .second, .val (.long q_3), .second, .val (.long q_4), .second, .val (.int p_5), .val (.long v90), .second, .val (.long q_4), .second, .val (.ref b92), .val (.ref b100), .val (.int r112), .val (.long v113), .second, .unset, .unset, .unset] [(.long (q_2 ^^^ (-1 : Int64))), (.long q_1)])
      refine own_go (fun _ k => XS.land X111.here hx rfl (hb hby at_92) rfl k) ?_
      show own_Go _ _ _ _ T111 (mkF m 93 #[.val (.long q_1), .second, .val (.long q_2), .second, .val (.long q_3), .second, .val (.long q_4), .second, .val (.int p_5), .val (.long v90), .second, .val (.long q_4), .second, .val (.ref b92), .val (.ref b100), .val (.int r112), .val (.long v113), .second, .unset, .unset, .unset] [(.long (q_1 &&& (q_2 ^^^ (-1 : Int64))))])
      refine own_go (fun _ k => XS.lstore X111.here hx rfl (hb hby at_93) rfl (l' := #[.val (.long q_1), .second, .val (.long q_2), .second, .val (.long q_3), .second, .val (.long q_4), .second, .val (.int p_5), .val (.long v90), .second, .val (.long q_4), .second, .val (.ref b92), .val (.ref b100), .val (.int r112), .val (.long v113), .second, .val (.long (q_1 &&& (q_2 ^^^ (-1 : Int64)))), .second, .unset]) rfl k) ?_
      show own_Go _ _ _ _ T111 (mkF m 95 #[.val (.long q_1), .second, .val (.long q_2), .second, .val (.long q_3), .second, .val (.long q_4), .second, .val (.int p_5), .val (.long v90), .second, .val (.long q_4), .second, .val (.ref b92), .val (.ref b100), .val (.int r112), .val (.long v113), .second, .val (.long (q_1 &&& (q_2 ^^^ (-1 : Int64)))), .second, .unset] [])
      generalize hdv114 : (q_1 &&& (q_2 ^^^ (-1 : Int64))) = v114
      show own_Go _ _ _ _ T111 (mkF m 95 #[.val (.long q_1), .second, .val (.long q_2), .second, .val (.long q_3), .second, .val (.long q_4), .second, .val (.int p_5), .val (.long v90), .second, .val (.long q_4), .second, .val (.ref b92), .val (.ref b100), .val (.int r112), .val (.long v113), .second, .val (.long v114), .second, .unset] [])
      refine own_go (fun _ k => XS.lload X111.here hx rfl (hb hby at_95) rfl k) ?_
      show own_Go _ _ _ _ T111 (mkF m 97 #[.val (.long q_1), .second, .val (.long q_2), .second, .val (.long q_3), .second, .val (.long q_4), .second, .val (.int p_5), .val (.long v90), .second, .val (.long q_4), .second, .val (.ref b92), .val (.ref b100), .val (.int r112), .val (.long v113), .second, .val (.long v114), .second, .unset] [(.long v90)])
      refine own_go (fun _ k => XS.lload X111.here hx rfl (hb hby at_97) rfl k) ?_
      show own_Go _ _ _ _ T111 (mkF m 99 #[.val (.long q_1), .second, .val (.long q_2), .second, .val (.long q_3), .second, .val (.long q_4), .second, .val (.int p_5), .val (.long v90), .second, .val (.long q_4), .second, .val (.ref b92), .val (.ref b100), .val (.int r112), .val (.long v113), .second, .val (.long v114), .second, .unset] [(.long v113), (.long v90)])
      refine own_go (fun _ k => X111.ldc2Long hx hown (mvT hZ (hw _ (List.mem_of_getElem? (i := 0) rfl))) (g := (mkF m 99 #[.val (.long q_1), .second, .val (.long q_2), .second, .val (.long q_3), .second, .val (.long q_4), .second, .val (.int p_5), .val (.long v90), .second, .val (.long q_4), .second, .val (.ref b92), .val (.ref b100), .val (.int r112), .val (.long v113), .second, .val (.long v114), .second, .unset] [(.long v113), (.long v90)])) rfl (hb hby at_99) _ k) ?_
      show own_Go _ _ _ _ T111 (mkF m 102 #[.val (.long q_1), .second, .val (.long q_2), .second, .val (.long q_3), .second, .val (.long q_4), .second, .val (.int p_5), .val (.long v90), .second, .val (.long q_4), .second, .val (.ref b92), .val (.ref b100), .val (.int r112), .val (.long v113), .second, .val (.long v114), .second, .unset] [(.long (-1 : Int64)), (.long v113), (.long v90)])
      refine own_go (fun _ k => XS.lxor X111.here hx rfl (hb hby at_102) rfl k) ?_
      show own_Go _ _ _ _ T111 (mkF m 103 #[.val (.long q_1), .second, .val (.long q_2), .second, .val (.long q_3), .second, .val (.long q_4), .second, .val (.int p_5), .val (.long v90), .second, .val (.long q_4), .second, .val (.ref b92), .val (.ref b100), .val (.int r112), .val (.long v113), .second, .val (.long v114), .second, .unset] [(.long (v113 ^^^ (-1 : Int64))), (.long v90)])
      refine own_go (fun _ k => XS.land X111.here hx rfl (hb hby at_103) rfl k) ?_
      show own_Go _ _ _ _ T111 (mkF m 104 #[.val (.long q_1), .second, .val (.long q_2), .second, .val (.long q_3), .second, .val (.long q_4), .second, .val (.int p_5), .val (.long v90), .second, .val (.long q_4), .second, .val (.ref b92), .val (.ref b100), .val (.int r112), .val (.long v113), .second, .val (.long v114), .second, .unset] [(.long (v90 &&& (v113 ^^^ (-1 : Int64))))])
      refine own_go (fun _ k => XS.lconst X111.here hx rfl (hb hby at_104) k) ?_
      show own_Go _ _ _ _ T111 (mkF m 105 #[.val (.long q_1), .second, .val (.long q_2), .second, .val (.long q_3), .second, .val (.long q_4), .second, .val (.int p_5), .val (.long v90), .second, .val (.long q_4), .second, .val (.ref b92), .val (.ref b100), .val (.int r112), .val (.long v113), .second, .val (.long v114), .second, .unset] [(.long (0 : Int64)), (.long (v90 &&& (v113 ^^^ (-1 : Int64))))])
      refine own_go (fun _ k => XS.lcmp X111.here hx rfl (hb hby at_105) rfl k) ?_
      show own_Go _ _ _ _ T111 (mkF m 106 #[.val (.long q_1), .second, .val (.long q_2), .second, .val (.long q_3), .second, .val (.long q_4), .second, .val (.int p_5), .val (.long v90), .second, .val (.long q_4), .second, .val (.ref b92), .val (.ref b100), .val (.int r112), .val (.long v113), .second, .val (.long v114), .second, .unset] [(.int (lcmpW (v90 &&& (v113 ^^^ (-1 : Int64))) (0 : Int64)))])
      by_cases hc115 : (v90 &&& (v113 ^^^ (-1 : Int64))) = (0 : Int64)
      · refine own_go (fun _ k => XS.ifNo X111.here hx rfl (hb hby at_106) rfl (Jvm.Free.XT.ll_ne_f hc115) k) ?_
        show own_Go _ _ _ _ T111 (mkF m 109 #[.val (.long q_1), .second, .val (.long q_2), .second, .val (.long q_3), .second, .val (.long q_4), .second, .val (.int p_5), .val (.long v90), .second, .val (.long q_4), .second, .val (.ref b92), .val (.ref b100), .val (.int r112), .val (.long v113), .second, .val (.long v114), .second, .unset] [])
        refine own_go (fun _ k => XS.lload X111.here hx rfl (hb hby at_109) rfl k) ?_
        show own_Go _ _ _ _ T111 (mkF m 111 #[.val (.long q_1), .second, .val (.long q_2), .second, .val (.long q_3), .second, .val (.long q_4), .second, .val (.int p_5), .val (.long v90), .second, .val (.long q_4), .second, .val (.ref b92), .val (.ref b100), .val (.int r112), .val (.long v113), .second, .val (.long v114), .second, .unset] [(.long q_4)])
        refine own_go (fun _ k => XS.lload X111.here hx rfl (hb hby at_111) rfl k) ?_
        show own_Go _ _ _ _ T111 (mkF m 113 #[.val (.long q_1), .second, .val (.long q_2), .second, .val (.long q_3), .second, .val (.long q_4), .second, .val (.int p_5), .val (.long v90), .second, .val (.long q_4), .second, .val (.ref b92), .val (.ref b100), .val (.int r112), .val (.long v113), .second, .val (.long v114), .second, .unset] [(.long v114), (.long q_4)])
        refine own_go (fun _ k => X111.ldc2Long hx hown (mvT hZ (hw _ (List.mem_of_getElem? (i := 0) rfl))) (g := (mkF m 113 #[.val (.long q_1), .second, .val (.long q_2), .second, .val (.long q_3), .second, .val (.long q_4), .second, .val (.int p_5), .val (.long v90), .second, .val (.long q_4), .second, .val (.ref b92), .val (.ref b100), .val (.int r112), .val (.long v113), .second, .val (.long v114), .second, .unset] [(.long v114), (.long q_4)])) rfl (hb hby at_113) _ k) ?_
        show own_Go _ _ _ _ T111 (mkF m 116 #[.val (.long q_1), .second, .val (.long q_2), .second, .val (.long q_3), .second, .val (.long q_4), .second, .val (.int p_5), .val (.long v90), .second, .val (.long q_4), .second, .val (.ref b92), .val (.ref b100), .val (.int r112), .val (.long v113), .second, .val (.long v114), .second, .unset] [(.long (-1 : Int64)), (.long v114), (.long q_4)])
        refine own_go (fun _ k => XS.lxor X111.here hx rfl (hb hby at_116) rfl k) ?_
        show own_Go _ _ _ _ T111 (mkF m 117 #[.val (.long q_1), .second, .val (.long q_2), .second, .val (.long q_3), .second, .val (.long q_4), .second, .val (.int p_5), .val (.long v90), .second, .val (.long q_4), .second, .val (.ref b92), .val (.ref b100), .val (.int r112), .val (.long v113), .second, .val (.long v114), .second, .unset] [(.long (v114 ^^^ (-1 : Int64))), (.long q_4)])
        refine own_go (fun _ k => XS.land X111.here hx rfl (hb hby at_117) rfl k) ?_
        show own_Go _ _ _ _ T111 (mkF m 118 #[.val (.long q_1), .second, .val (.long q_2), .second, .val (.long q_3), .second, .val (.long q_4), .second, .val (.int p_5), .val (.long v90), .second, .val (.long q_4), .second, .val (.ref b92), .val (.ref b100), .val (.int r112), .val (.long v113), .second, .val (.long v114), .second, .unset] [(.long (q_4 &&& (v114 ^^^ (-1 : Int64))))])
        refine own_go (fun _ k => XS.lconst X111.here hx rfl (hb hby at_118) k) ?_
        show own_Go _ _ _ _ T111 (mkF m 119 #[.val (.long q_1), .second, .val (.long q_2), .second, .val (.long q_3), .second, .val (.long q_4), .second, .val (.int p_5), .val (.long v90), .second, .val (.long q_4), .second, .val (.ref b92), .val (.ref b100), .val (.int r112), .val (.long v113), .second, .val (.long v114), .second, .unset] [(.long (0 : Int64)), (.long (q_4 &&& (v114 ^^^ (-1 : Int64))))])
        refine own_go (fun _ k => XS.lcmp X111.here hx rfl (hb hby at_119) rfl k) ?_
        show own_Go _ _ _ _ T111 (mkF m 120 #[.val (.long q_1), .second, .val (.long q_2), .second, .val (.long q_3), .second, .val (.long q_4), .second, .val (.int p_5), .val (.long v90), .second, .val (.long q_4), .second, .val (.ref b92), .val (.ref b100), .val (.int r112), .val (.long v113), .second, .val (.long v114), .second, .unset] [(.int (lcmpW (q_4 &&& (v114 ^^^ (-1 : Int64))) (0 : Int64)))])
        by_cases hc116 : (q_4 &&& (v114 ^^^ (-1 : Int64))) = (0 : Int64)
        · refine own_go (fun _ k => XS.ifNo X111.here hx rfl (hb hby at_120) rfl (Jvm.Free.XT.ll_ne_f hc116) k) ?_
          show own_Go _ _ _ _ T111 (mkF m 123 #[.val (.long q_1), .second, .val (.long q_2), .second, .val (.long q_3), .second, .val (.long q_4), .second, .val (.int p_5), .val (.long v90), .second, .val (.long q_4), .second, .val (.ref b92), .val (.ref b100), .val (.int r112), .val (.long v113), .second, .val (.long v114), .second, .unset] [])
          refine own_go (fun _ k => XS.iconst X111.here hx rfl (hb hby at_123) k) ?_
          show own_Go _ _ _ _ T111 (mkF m 124 #[.val (.long q_1), .second, .val (.long q_2), .second, .val (.long q_3), .second, .val (.long q_4), .second, .val (.int p_5), .val (.long v90), .second, .val (.long q_4), .second, .val (.ref b92), .val (.ref b100), .val (.int r112), .val (.long v113), .second, .val (.long v114), .second, .unset] [(.int (1 : Int32))])
          refine own_go (fun _ k => XS.goto X111.here hx rfl (pc0 := 124) (pc' := 128) rfl (hb hby at_124) (by decide) (by decide) k) ?_
          show own_Go _ _ _ _ T111 (mkF m 128 #[.val (.long q_1), .second, .val (.long q_2), .second, .val (.long q_3), .second, .val (.long q_4), .second, .val (.int p_5), .val (.long v90), .second, .val (.long q_4), .second, .val (.ref b92), .val (.ref b100), .val (.int r112), .val (.long v113), .second, .val (.long v114), .second, .unset] [(.int (1 : Int32))])
          refine own_go (fun _ k => XS.istore X111.here hx rfl (hb hby at_128) rfl (l' := #[.val (.long q_1), .second, .val (.long q_2), .second, .val (.long q_3), .second, .val (.long q_4), .second, .val (.int p_5), .val (.long v90), .second, .val (.long q_4), .second, .val (.ref b92), .val (.ref b100), .val (.int r112), .val (.long v113), .second, .val (.long v114), .second, .val (.int (1 : Int32))]) rfl k) ?_
          show own_Go _ _ _ _ T111 (mkF m 130 #[.val (.long q_1), .second, .val (.long q_2), .second, .val (.long q_3), .second, .val (.long q_4), .second, .val (.int p_5), .val (.long v90), .second, .val (.long q_4), .second, .val (.ref b92), .val (.ref b100), .val (.int r112), .val (.long v113), .second, .val (.long v114), .second, .val (.int (1 : Int32))] [])
          refine own_go (fun _ k => XS.iload X111.here hx rfl (hb hby at_130) rfl k) ?_
          show own_Go _ _ _ _ T111 (mkF m 132 #[.val (.long q_1), .second, .val (.long q_2), .second, .val (.long q_3), .second, .val (.long q_4), .second, .val (.int p_5), .val (.long v90), .second, .val (.long q_4), .second, .val (.ref b92), .val (.ref b100), .val (.int r112), .val (.long v113), .second, .val (.long v114), .second, .val (.int (1 : Int32))] [(.int r112)])
          refine own_go (fun _ k => XS.iload X111.here hx rfl (hb hby at_132) rfl k) ?_
          show own_Go _ _ _ _ T111 (mkF m 134 #[.val (.long q_1), .second, .val (.long q_2), .second, .val (.long q_3), .second, .val (.long q_4), .second, .val (.int p_5), .val (.long v90), .second, .val (.long q_4), .second, .val (.ref b92), .val (.ref b100), .val (.int r112), .val (.long v113), .second, .val (.long v114), .second, .val (.int (1 : Int32))] [(.int (1 : Int32)), (.int r112)])
          have hc117 : r112 = (1 : Int32) := own_t0_6 q_1 q_2 q_3 q_4 v90 r112 v113 v114 hdv90 hr_r112 hdv113 hdv114 hc115 hc116
          refine own_go (fun _ k => XS.icmpNo X111.here hx rfl (hb hby at_134) rfl (Jvm.Free.XT.ii_ne_f hc117) k) ?_
          show own_Go _ _ _ _ T111 (mkF m 137 #[.val (.long q_1), .second, .val (.long q_2), .second, .val (.long q_3), .second, .val (.long q_4), .second, .val (.int p_5), .val (.long v90), .second, .val (.long q_4), .second, .val (.ref b92), .val (.ref b100), .val (.int r112), .val (.long v113), .second, .val (.long v114), .second, .val (.int (1 : Int32))] [])
          refine own_go (fun _ k => XS.aload X111.here hx rfl (hb hby at_137) rfl rfl k) ?_
          show own_Go _ _ _ _ T111 (mkF m 139 #[.val (.long q_1), .second, .val (.long q_2), .second, .val (.long q_3), .second, .val (.long q_4), .second, .val (.int p_5), .val (.long v90), .second, .val (.long q_4), .second, .val (.ref b92), .val (.ref b100), .val (.int r112), .val (.long v113), .second, .val (.long v114), .second, .val (.int (1 : Int32))] [(.ref b92)])
          refine own_go (fun _ k => XS.iconst X111.here hx rfl (hb hby at_139) k) ?_
          show own_Go _ _ _ _ T111 (mkF m 140 #[.val (.long q_1), .second, .val (.long q_2), .second, .val (.long q_3), .second, .val (.long q_4), .second, .val (.int p_5), .val (.long v90), .second, .val (.long q_4), .second, .val (.ref b92), .val (.ref b100), .val (.int r112), .val (.long v113), .second, .val (.long v114), .second, .val (.int (1 : Int32))] [(.int (0 : Int32)), (.ref b92)])
          obtain ⟨q118, c118, R118, s118, t118⟩ := id f110
          have hin118 : ¬ ((0 : Int32) < 0 ∨ c118.slots.size ≤ ((0 : Int32)).toNatClampNeg) := inb_of s118 ⟨by decide, by decide⟩
          have u118 : c118.slots[((0 : Int32)).toNatClampNeg]? = some (.long v90) := own_at (k := 0) t118 s118 hin118 (by decide) (rfl)
          refine own_go (fun _ k => X111.laload hx (j := (0 : Int32)) (v := (.long v90)) (by rw [e111]; exact R118.1) (State.isArrayOf_alike hZ.alike R118.2.1) R118.2.2 hin118 u118 (g := (mkF m 140 #[.val (.long q_1), .second, .val (.long q_2), .second, .val (.long q_3), .second, .val (.long q_4), .second, .val (.int p_5), .val (.long v90), .second, .val (.long q_4), .second, .val (.ref b92), .val (.ref b100), .val (.int r112), .val (.long v113), .second, .val (.long v114), .second, .val (.int (1 : Int32))] [(.int (0 : Int32)), (.ref b92)])) rfl rfl (hb hby at_140) _ k) ?_
          show own_Go _ _ _ _ T111 (mkF m 141 #[.val (.long q_1), .second, .val (.long q_2), .second, .val (.long q_3), .second, .val (.long q_4), .second, .val (.int p_5), .val (.long v90), .second, .val (.long q_4), .second, .val (.ref b92), .val (.ref b100), .val (.int r112), .val (.long v113), .second, .val (.long v114), .second, .val (.int (1 : Int32))] [(.long v90)])
          refine own_go (fun _ k => XS.lload X111.here hx rfl (hb hby at_141) rfl k) ?_
          show own_Go _ _ _ _ T111 (mkF m 143 #[.val (.long q_1), .second, .val (.long q_2), .second, .val (.long q_3), .second, .val (.long q_4), .second, .val (.int p_5), .val (.long v90), .second, .val (.long q_4), .second, .val (.ref b92), .val (.ref b100), .val (.int r112), .val (.long v113), .second, .val (.long v114), .second, .val (.int (1 : Int32))] [(.long v90), (.long v90)])
          refine own_go (fun _ k => XS.lcmp X111.here hx rfl (hb hby at_143) rfl k) ?_
          show own_Go _ _ _ _ T111 (mkF m 144 #[.val (.long q_1), .second, .val (.long q_2), .second, .val (.long q_3), .second, .val (.long q_4), .second, .val (.int p_5), .val (.long v90), .second, .val (.long q_4), .second, .val (.ref b92), .val (.ref b100), .val (.int r112), .val (.long v113), .second, .val (.long v114), .second, .val (.int (1 : Int32))] [(.int (lcmpW v90 v90))])
          have hc119 : v90 = v90 := rfl
          refine own_go (fun _ k => XS.ifNo X111.here hx rfl (hb hby at_144) rfl (Jvm.Free.XT.ll_ne_f hc119) k) ?_
          show own_Go _ _ _ _ T111 (mkF m 147 #[.val (.long q_1), .second, .val (.long q_2), .second, .val (.long q_3), .second, .val (.long q_4), .second, .val (.int p_5), .val (.long v90), .second, .val (.long q_4), .second, .val (.ref b92), .val (.ref b100), .val (.int r112), .val (.long v113), .second, .val (.long v114), .second, .val (.int (1 : Int32))] [])
          refine own_go (fun _ k => XS.aload X111.here hx rfl (hb hby at_147) rfl rfl k) ?_
          show own_Go _ _ _ _ T111 (mkF m 149 #[.val (.long q_1), .second, .val (.long q_2), .second, .val (.long q_3), .second, .val (.long q_4), .second, .val (.int p_5), .val (.long v90), .second, .val (.long q_4), .second, .val (.ref b92), .val (.ref b100), .val (.int r112), .val (.long v113), .second, .val (.long v114), .second, .val (.int (1 : Int32))] [(.ref b92)])
          refine own_go (fun _ k => XS.iconst X111.here hx rfl (hb hby at_149) k) ?_
          show own_Go _ _ _ _ T111 (mkF m 150 #[.val (.long q_1), .second, .val (.long q_2), .second, .val (.long q_3), .second, .val (.long q_4), .second, .val (.int p_5), .val (.long v90), .second, .val (.long q_4), .second, .val (.ref b92), .val (.ref b100), .val (.int r112), .val (.long v113), .second, .val (.long v114), .second, .val (.int (1 : Int32))] [(.int (1 : Int32)), (.ref b92)])
          obtain ⟨q120, c120, R120, s120, t120⟩ := id f110
          have hin120 : ¬ ((1 : Int32) < 0 ∨ c120.slots.size ≤ ((1 : Int32)).toNatClampNeg) := inb_of s120 ⟨by decide, by decide⟩
          have u120 : c120.slots[((1 : Int32)).toNatClampNeg]? = some (.long q_4) := own_at (k := 1) t120 s120 hin120 (by decide) (rfl)
          refine own_go (fun _ k => X111.laload hx (j := (1 : Int32)) (v := (.long q_4)) (by rw [e111]; exact R120.1) (State.isArrayOf_alike hZ.alike R120.2.1) R120.2.2 hin120 u120 (g := (mkF m 150 #[.val (.long q_1), .second, .val (.long q_2), .second, .val (.long q_3), .second, .val (.long q_4), .second, .val (.int p_5), .val (.long v90), .second, .val (.long q_4), .second, .val (.ref b92), .val (.ref b100), .val (.int r112), .val (.long v113), .second, .val (.long v114), .second, .val (.int (1 : Int32))] [(.int (1 : Int32)), (.ref b92)])) rfl rfl (hb hby at_150) _ k) ?_
          show own_Go _ _ _ _ T111 (mkF m 151 #[.val (.long q_1), .second, .val (.long q_2), .second, .val (.long q_3), .second, .val (.long q_4), .second, .val (.int p_5), .val (.long v90), .second, .val (.long q_4), .second, .val (.ref b92), .val (.ref b100), .val (.int r112), .val (.long v113), .second, .val (.long v114), .second, .val (.int (1 : Int32))] [(.long q_4)])
          refine own_go (fun _ k => XS.lload X111.here hx rfl (hb hby at_151) rfl k) ?_
          show own_Go _ _ _ _ T111 (mkF m 153 #[.val (.long q_1), .second, .val (.long q_2), .second, .val (.long q_3), .second, .val (.long q_4), .second, .val (.int p_5), .val (.long v90), .second, .val (.long q_4), .second, .val (.ref b92), .val (.ref b100), .val (.int r112), .val (.long v113), .second, .val (.long v114), .second, .val (.int (1 : Int32))] [(.long q_4), (.long q_4)])
          refine own_go (fun _ k => XS.lcmp X111.here hx rfl (hb hby at_153) rfl k) ?_
          show own_Go _ _ _ _ T111 (mkF m 154 #[.val (.long q_1), .second, .val (.long q_2), .second, .val (.long q_3), .second, .val (.long q_4), .second, .val (.int p_5), .val (.long v90), .second, .val (.long q_4), .second, .val (.ref b92), .val (.ref b100), .val (.int r112), .val (.long v113), .second, .val (.long v114), .second, .val (.int (1 : Int32))] [(.int (lcmpW q_4 q_4))])
          have hc121 : q_4 = q_4 := rfl
          refine own_go (fun _ k => XS.ifNo X111.here hx rfl (hb hby at_154) rfl (Jvm.Free.XT.ll_ne_f hc121) k) ?_
          show own_Go _ _ _ _ T111 (mkF m 157 #[.val (.long q_1), .second, .val (.long q_2), .second, .val (.long q_3), .second, .val (.long q_4), .second, .val (.int p_5), .val (.long v90), .second, .val (.long q_4), .second, .val (.ref b92), .val (.ref b100), .val (.int r112), .val (.long v113), .second, .val (.long v114), .second, .val (.int (1 : Int32))] [])
          refine own_go (fun _ k => XS.iconst X111.here hx rfl (hb hby at_157) k) ?_
          show own_Go _ _ _ _ T111 (mkF m 158 #[.val (.long q_1), .second, .val (.long q_2), .second, .val (.long q_3), .second, .val (.long q_4), .second, .val (.int p_5), .val (.long v90), .second, .val (.long q_4), .second, .val (.ref b92), .val (.ref b100), .val (.int r112), .val (.long v113), .second, .val (.long v114), .second, .val (.int (1 : Int32))] [(.int (1 : Int32))])
          refine own_go (fun _ k => XS.goto X111.here hx rfl (pc0 := 158) (pc' := 162) rfl (hb hby at_158) (by decide) (by decide) k) ?_
          show own_Go _ _ _ _ T111 (mkF m 162 #[.val (.long q_1), .second, .val (.long q_2), .second, .val (.long q_3), .second, .val (.long q_4), .second, .val (.int p_5), .val (.long v90), .second, .val (.long q_4), .second, .val (.ref b92), .val (.ref b100), .val (.int r112), .val (.long v113), .second, .val (.long v114), .second, .val (.int (1 : Int32))] [(.int (1 : Int32))])
          obtain ⟨fs, hr, hrun, hended, hW, hsame⟩ := X111.leave (v := some (.int (1 : Int32))) (fun h => by rw [Bd.returns] at h; cases h)
          refine ⟨_, _, retOut X111 hx Bd.returns rfl (Or.inl ⟨rfl, Or.inr (Or.inl rfl), _, rfl⟩) (hb hby at_162) hr, hrun, hended, _, _, rfl, ?_, ⟨_, rfl⟩, hW, hsame.mono (by rw [y111]; decide) (by rw [z111]; decide)⟩
          show own_Q0 Z q_1 q_2 q_3 q_4 p_5 h0 n0 _ T111.heap _
          rw [e111]
          exact ⟨rfl, N111⟩
        · refine own_go (fun _ k => XS.ifYes X111.here hx rfl (pc0 := 120) (pc' := 127) rfl (hb hby at_120) rfl (Jvm.Free.XT.ll_ne_t hc116) (by decide) (by decide) k) ?_
          show own_Go _ _ _ _ T111 (mkF m 127 #[.val (.long q_1), .second, .val (.long q_2), .second, .val (.long q_3), .second, .val (.long q_4), .second, .val (.int p_5), .val (.long v90), .second, .val (.long q_4), .second, .val (.ref b92), .val (.ref b100), .val (.int r112), .val (.long v113), .second, .val (.long v114), .second, .unset] [])
          refine own_go (fun _ k => XS.iconst X111.here hx rfl (hb hby at_127) k) ?_
          show own_Go _ _ _ _ T111 (mkF m 128 #[.val (.long q_1), .second, .val (.long q_2), .second, .val (.long q_3), .second, .val (.long q_4), .second, .val (.int p_5), .val (.long v90), .second, .val (.long q_4), .second, .val (.ref b92), .val (.ref b100), .val (.int r112), .val (.long v113), .second, .val (.long v114), .second, .unset] [(.int (0 : Int32))])
          refine own_go (fun _ k => XS.istore X111.here hx rfl (hb hby at_128) rfl (l' := #[.val (.long q_1), .second, .val (.long q_2), .second, .val (.long q_3), .second, .val (.long q_4), .second, .val (.int p_5), .val (.long v90), .second, .val (.long q_4), .second, .val (.ref b92), .val (.ref b100), .val (.int r112), .val (.long v113), .second, .val (.long v114), .second, .val (.int (0 : Int32))]) rfl k) ?_
          show own_Go _ _ _ _ T111 (mkF m 130 #[.val (.long q_1), .second, .val (.long q_2), .second, .val (.long q_3), .second, .val (.long q_4), .second, .val (.int p_5), .val (.long v90), .second, .val (.long q_4), .second, .val (.ref b92), .val (.ref b100), .val (.int r112), .val (.long v113), .second, .val (.long v114), .second, .val (.int (0 : Int32))] [])
          refine own_go (fun _ k => XS.iload X111.here hx rfl (hb hby at_130) rfl k) ?_
          show own_Go _ _ _ _ T111 (mkF m 132 #[.val (.long q_1), .second, .val (.long q_2), .second, .val (.long q_3), .second, .val (.long q_4), .second, .val (.int p_5), .val (.long v90), .second, .val (.long q_4), .second, .val (.ref b92), .val (.ref b100), .val (.int r112), .val (.long v113), .second, .val (.long v114), .second, .val (.int (0 : Int32))] [(.int r112)])
          refine own_go (fun _ k => XS.iload X111.here hx rfl (hb hby at_132) rfl k) ?_
          show own_Go _ _ _ _ T111 (mkF m 134 #[.val (.long q_1), .second, .val (.long q_2), .second, .val (.long q_3), .second, .val (.long q_4), .second, .val (.int p_5), .val (.long v90), .second, .val (.long q_4), .second, .val (.ref b92), .val (.ref b100), .val (.int r112), .val (.long v113), .second, .val (.long v114), .second, .val (.int (0 : Int32))] [(.int (0 : Int32)), (.int r112)])
          have hc123 : r112 = (0 : Int32) := own_t0_7 q_1 q_2 q_3 q_4 v90 r112 v113 v114 hdv90 hr_r112 hdv113 hdv114 hc115 hc116
          refine own_go (fun _ k => XS.icmpNo X111.here hx rfl (hb hby at_134) rfl (Jvm.Free.XT.ii_ne_f hc123) k) ?_
          show own_Go _ _ _ _ T111 (mkF m 137 #[.val (.long q_1), .second, .val (.long q_2), .second, .val (.long q_3), .second, .val (.long q_4), .second, .val (.int p_5), .val (.long v90), .second, .val (.long q_4), .second, .val (.ref b92), .val (.ref b100), .val (.int r112), .val (.long v113), .second, .val (.long v114), .second, .val (.int (0 : Int32))] [])
          refine own_go (fun _ k => XS.aload X111.here hx rfl (hb hby at_137) rfl rfl k) ?_
          show own_Go _ _ _ _ T111 (mkF m 139 #[.val (.long q_1), .second, .val (.long q_2), .second, .val (.long q_3), .second, .val (.long q_4), .second, .val (.int p_5), .val (.long v90), .second, .val (.long q_4), .second, .val (.ref b92), .val (.ref b100), .val (.int r112), .val (.long v113), .second, .val (.long v114), .second, .val (.int (0 : Int32))] [(.ref b92)])
          refine own_go (fun _ k => XS.iconst X111.here hx rfl (hb hby at_139) k) ?_
          show own_Go _ _ _ _ T111 (mkF m 140 #[.val (.long q_1), .second, .val (.long q_2), .second, .val (.long q_3), .second, .val (.long q_4), .second, .val (.int p_5), .val (.long v90), .second, .val (.long q_4), .second, .val (.ref b92), .val (.ref b100), .val (.int r112), .val (.long v113), .second, .val (.long v114), .second, .val (.int (0 : Int32))] [(.int (0 : Int32)), (.ref b92)])
          obtain ⟨q124, c124, R124, s124, t124⟩ := id f110
          have hin124 : ¬ ((0 : Int32) < 0 ∨ c124.slots.size ≤ ((0 : Int32)).toNatClampNeg) := inb_of s124 ⟨by decide, by decide⟩
          have u124 : c124.slots[((0 : Int32)).toNatClampNeg]? = some (.long v90) := own_at (k := 0) t124 s124 hin124 (by decide) (rfl)
          refine own_go (fun _ k => X111.laload hx (j := (0 : Int32)) (v := (.long v90)) (by rw [e111]; exact R124.1) (State.isArrayOf_alike hZ.alike R124.2.1) R124.2.2 hin124 u124 (g := (mkF m 140 #[.val (.long q_1), .second, .val (.long q_2), .second, .val (.long q_3), .second, .val (.long q_4), .second, .val (.int p_5), .val (.long v90), .second, .val (.long q_4), .second, .val (.ref b92), .val (.ref b100), .val (.int r112), .val (.long v113), .second, .val (.long v114), .second, .val (.int (0 : Int32))] [(.int (0 : Int32)), (.ref b92)])) rfl rfl (hb hby at_140) _ k) ?_
          show own_Go _ _ _ _ T111 (mkF m 141 #[.val (.long q_1), .second, .val (.long q_2), .second, .val (.long q_3), .second, .val (.long q_4), .second, .val (.int p_5), .val (.long v90), .second, .val (.long q_4), .second, .val (.ref b92), .val (.ref b100), .val (.int r112), .val (.long v113), .second, .val (.long v114), .second, .val (.int (0 : Int32))] [(.long v90)])
          refine own_go (fun _ k => XS.lload X111.here hx rfl (hb hby at_141) rfl k) ?_
          show own_Go _ _ _ _ T111 (mkF m 143 #[.val (.long q_1), .second, .val (.long q_2), .second, .val (.long q_3), .second, .val (.long q_4), .second, .val (.int p_5), .val (.long v90), .second, .val (.long q_4), .second, .val (.ref b92), .val (.ref b100), .val (.int r112), .val (.long v113), .second, .val (.long v114), .second, .val (.int (0 : Int32))] [(.long v90), (.long v90)])
          refine own_go (fun _ k => XS.lcmp X111.here hx rfl (hb hby at_143) rfl k) ?_
          show own_Go _ _ _ _ T111 (mkF m 144 #[.val (.long q_1), .second, .val (.long q_2), .second, .val (.long q_3), .second, .val (.long q_4), .second, .val (.int p_5), .val (.long v90), .second, .val (.long q_4), .second, .val (.ref b92), .val (.ref b100), .val (.int r112), .val (.long v113), .second, .val (.long v114), .second, .val (.int (0 : Int32))] [(.int (lcmpW v90 v90))])
          have hc125 : v90 = v90 := rfl
          refine own_go (fun _ k => XS.ifNo X111.here hx rfl (hb hby at_144) rfl (Jvm.Free.XT.ll_ne_f hc125) k) ?_
          show own_Go _ _ _ _ T111 (mkF m 147 #[.val (.long q_1), .second, .val (.long q_2), .second, .val (.long q_3), .second, .val (.long q_4), .second, .val (.int p_5), .val (.long v90), .second, .val (.long q_4), .second, .val (.ref b92), .val (.ref b100), .val (.int r112), .val (.long v113), .second, .val (.long v114), .second, .val (.int (0 : Int32))] [])
          refine own_go (fun _ k => XS.aload X111.here hx rfl (hb hby at_147) rfl rfl k) ?_
          show own_Go _ _ _ _ T111 (mkF m 149 #[.val (.long q_1), .second, .val (.long q_2), .second, .val (.long q_3), .second, .val (.long q_4), .second, .val (.int p_5), .val (.long v90), .second, .val (.long q_4), .second, .val (.ref b92), .val (.ref b100), .val (.int r112), .val (.long v113), .second, .val (.long v114), .second, .val (.int (0 : Int32))] [(.ref b92)])
          refine own_go (fun _ k => XS.iconst X111.here hx rfl (hb hby at_149) k) ?_
          show own_Go _ _ _ _ T111 (mkF m 150 #[.val (.long q_1), .second, .val (.long q_2), .second, .val (.long q_3), .second, .val (.long q_4), .second, .val (.int p_5), .val (.long v90), .second, .val (.long q_4), .second, .val (.ref b92), .val (.ref b100), .val (.int r112), .val (.long v113), .second, .val (.long v114), .second, .val (.int (0 : Int32))] [(.int (1 : Int32)), (.ref b92)])
          obtain ⟨q126, c126, R126, s126, t126⟩ := id f110
          have hin126 : ¬ ((1 : Int32) < 0 ∨ c126.slots.size ≤ ((1 : Int32)).toNatClampNeg) := inb_of s126 ⟨by decide, by decide⟩
          have u126 : c126.slots[((1 : Int32)).toNatClampNeg]? = some (.long q_4) := own_at (k := 1) t126 s126 hin126 (by decide) (rfl)
          refine own_go (fun _ k => X111.laload hx (j := (1 : Int32)) (v := (.long q_4)) (by rw [e111]; exact R126.1) (State.isArrayOf_alike hZ.alike R126.2.1) R126.2.2 hin126 u126 (g := (mkF m 150 #[.val (.long q_1), .second, .val (.long q_2), .second, .val (.long q_3), .second, .val (.long q_4), .second, .val (.int p_5), .val (.long v90), .second, .val (.long q_4), .second, .val (.ref b92), .val (.ref b100), .val (.int r112), .val (.long v113), .second, .val (.long v114), .second, .val (.int (0 : Int32))] [(.int (1 : Int32)), (.ref b92)])) rfl rfl (hb hby at_150) _ k) ?_
          show own_Go _ _ _ _ T111 (mkF m 151 #[.val (.long q_1), .second, .val (.long q_2), .second, .val (.long q_3), .second, .val (.long q_4), .second, .val (.int p_5), .val (.long v90), .second, .val (.long q_4), .second, .val (.ref b92), .val (.ref b100), .val (.int r112), .val (.long v113), .second, .val (.long v114), .second, .val (.int (0 : Int32))] [(.long q_4)])
          refine own_go (fun _ k => XS.lload X111.here hx rfl (hb hby at_151) rfl k) ?_
          show own_Go _ _ _ _ T111 (mkF m 153 #[.val (.long q_1), .second, .val (.long q_2), .second, .val (.long q_3), .second, .val (.long q_4), .second, .val (.int p_5), .val (.long v90), .second, .val (.long q_4), .second, .val (.ref b92), .val (.ref b100), .val (.int r112), .val (.long v113), .second, .val (.long v114), .second, .val (.int (0 : Int32))] [(.long q_4), (.long q_4)])
          refine own_go (fun _ k => XS.lcmp X111.here hx rfl (hb hby at_153) rfl k) ?_
          show own_Go _ _ _ _ T111 (mkF m 154 #[.val (.long q_1), .second, .val (.long q_2), .second, .val (.long q_3), .second, .val (.long q_4), .second, .val (.int p_5), .val (.long v90), .second, .val (.long q_4), .second, .val (.ref b92), .val (.ref b100), .val (.int r112), .val (.long v113), .second, .val (.long v114), .second, .val (.int (0 : Int32))] [(.int (lcmpW q_4 q_4))])
          have hc127 : q_4 = q_4 := rfl
          refine own_go (fun _ k => XS.ifNo X111.here hx rfl (hb hby at_154) rfl (Jvm.Free.XT.ll_ne_f hc127) k) ?_
          show own_Go _ _ _ _ T111 (mkF m 157 #[.val (.long q_1), .second, .val (.long q_2), .second, .val (.long q_3), .second, .val (.long q_4), .second, .val (.int p_5), .val (.long v90), .second, .val (.long q_4), .second, .val (.ref b92), .val (.ref b100), .val (.int r112), .val (.long v113), .second, .val (.long v114), .second, .val (.int (0 : Int32))] [])
          refine own_go (fun _ k => XS.iconst X111.here hx rfl (hb hby at_157) k) ?_
          show own_Go _ _ _ _ T111 (mkF m 158 #[.val (.long q_1), .second, .val (.long q_2), .second, .val (.long q_3), .second, .val (.long q_4), .second, .val (.int p_5), .val (.long v90), .second, .val (.long q_4), .second, .val (.ref b92), .val (.ref b100), .val (.int r112), .val (.long v113), .second, .val (.long v114), .second, .val (.int (0 : Int32))] [(.int (1 : Int32))])
          refine own_go (fun _ k => XS.goto X111.here hx rfl (pc0 := 158) (pc' := 162) rfl (hb hby at_158) (by decide) (by decide) k) ?_
          show own_Go _ _ _ _ T111 (mkF m 162 #[.val (.long q_1), .second, .val (.long q_2), .second, .val (.long q_3), .second, .val (.long q_4), .second, .val (.int p_5), .val (.long v90), .second, .val (.long q_4), .second, .val (.ref b92), .val (.ref b100), .val (.int r112), .val (.long v113), .second, .val (.long v114), .second, .val (.int (0 : Int32))] [(.int (1 : Int32))])
          obtain ⟨fs, hr, hrun, hended, hW, hsame⟩ := X111.leave (v := some (.int (1 : Int32))) (fun h => by rw [Bd.returns] at h; cases h)
          refine ⟨_, _, retOut X111 hx Bd.returns rfl (Or.inl ⟨rfl, Or.inr (Or.inl rfl), _, rfl⟩) (hb hby at_162) hr, hrun, hended, _, _, rfl, ?_, ⟨_, rfl⟩, hW, hsame.mono (by rw [y111]; decide) (by rw [z111]; decide)⟩
          show own_Q0 Z q_1 q_2 q_3 q_4 p_5 h0 n0 _ T111.heap _
          rw [e111]
          exact ⟨rfl, N111⟩
      · refine own_go (fun _ k => XS.ifYes X111.here hx rfl (pc0 := 106) (pc' := 127) rfl (hb hby at_106) rfl (Jvm.Free.XT.ll_ne_t hc115) (by decide) (by decide) k) ?_
        show own_Go _ _ _ _ T111 (mkF m 127 #[.val (.long q_1), .second, .val (.long q_2), .second, .val (.long q_3), .second, .val (.long q_4), .second, .val (.int p_5), .val (.long v90), .second, .val (.long q_4), .second, .val (.ref b92), .val (.ref b100), .val (.int r112), .val (.long v113), .second, .val (.long v114), .second, .unset] [])
        refine own_go (fun _ k => XS.iconst X111.here hx rfl (hb hby at_127) k) ?_
        show own_Go _ _ _ _ T111 (mkF m 128 #[.val (.long q_1), .second, .val (.long q_2), .second, .val (.long q_3), .second, .val (.long q_4), .second, .val (.int p_5), .val (.long v90), .second, .val (.long q_4), .second, .val (.ref b92), .val (.ref b100), .val (.int r112), .val (.long v113), .second, .val (.long v114), .second, .unset] [(.int (0 : Int32))])
        refine own_go (fun _ k => XS.istore X111.here hx rfl (hb hby at_128) rfl (l' := #[.val (.long q_1), .second, .val (.long q_2), .second, .val (.long q_3), .second, .val (.long q_4), .second, .val (.int p_5), .val (.long v90), .second, .val (.long q_4), .second, .val (.ref b92), .val (.ref b100), .val (.int r112), .val (.long v113), .second, .val (.long v114), .second, .val (.int (0 : Int32))]) rfl k) ?_
        show own_Go _ _ _ _ T111 (mkF m 130 #[.val (.long q_1), .second, .val (.long q_2), .second, .val (.long q_3), .second, .val (.long q_4), .second, .val (.int p_5), .val (.long v90), .second, .val (.long q_4), .second, .val (.ref b92), .val (.ref b100), .val (.int r112), .val (.long v113), .second, .val (.long v114), .second, .val (.int (0 : Int32))] [])
        refine own_go (fun _ k => XS.iload X111.here hx rfl (hb hby at_130) rfl k) ?_
        show own_Go _ _ _ _ T111 (mkF m 132 #[.val (.long q_1), .second, .val (.long q_2), .second, .val (.long q_3), .second, .val (.long q_4), .second, .val (.int p_5), .val (.long v90), .second, .val (.long q_4), .second, .val (.ref b92), .val (.ref b100), .val (.int r112), .val (.long v113), .second, .val (.long v114), .second, .val (.int (0 : Int32))] [(.int r112)])
        refine own_go (fun _ k => XS.iload X111.here hx rfl (hb hby at_132) rfl k) ?_
        show own_Go _ _ _ _ T111 (mkF m 134 #[.val (.long q_1), .second, .val (.long q_2), .second, .val (.long q_3), .second, .val (.long q_4), .second, .val (.int p_5), .val (.long v90), .second, .val (.long q_4), .second, .val (.ref b92), .val (.ref b100), .val (.int r112), .val (.long v113), .second, .val (.long v114), .second, .val (.int (0 : Int32))] [(.int (0 : Int32)), (.int r112)])
        have hc129 : r112 = (0 : Int32) := own_t0_8 q_1 q_2 q_3 q_4 v90 r112 v113 v114 hdv90 hr_r112 hdv113 hdv114 hc115
        refine own_go (fun _ k => XS.icmpNo X111.here hx rfl (hb hby at_134) rfl (Jvm.Free.XT.ii_ne_f hc129) k) ?_
        show own_Go _ _ _ _ T111 (mkF m 137 #[.val (.long q_1), .second, .val (.long q_2), .second, .val (.long q_3), .second, .val (.long q_4), .second, .val (.int p_5), .val (.long v90), .second, .val (.long q_4), .second, .val (.ref b92), .val (.ref b100), .val (.int r112), .val (.long v113), .second, .val (.long v114), .second, .val (.int (0 : Int32))] [])
        refine own_go (fun _ k => XS.aload X111.here hx rfl (hb hby at_137) rfl rfl k) ?_
        show own_Go _ _ _ _ T111 (mkF m 139 #[.val (.long q_1), .second, .val (.long q_2), .second, .val (.long q_3), .second, .val (.long q_4), .second, .val (.int p_5), .val (.long v90), .second, .val (.long q_4), .second, .val (.ref b92), .val (.ref b100), .val (.int r112), .val (.long v113), .second, .val (.long v114), .second, .val (.int (0 : Int32))] [(.ref b92)])
        refine own_go (fun _ k => XS.iconst X111.here hx rfl (hb hby at_139) k) ?_
        show own_Go _ _ _ _ T111 (mkF m 140 #[.val (.long q_1), .second, .val (.long q_2), .second, .val (.long q_3), .second, .val (.long q_4), .second, .val (.int p_5), .val (.long v90), .second, .val (.long q_4), .second, .val (.ref b92), .val (.ref b100), .val (.int r112), .val (.long v113), .second, .val (.long v114), .second, .val (.int (0 : Int32))] [(.int (0 : Int32)), (.ref b92)])
        obtain ⟨q130, c130, R130, s130, t130⟩ := id f110
        have hin130 : ¬ ((0 : Int32) < 0 ∨ c130.slots.size ≤ ((0 : Int32)).toNatClampNeg) := inb_of s130 ⟨by decide, by decide⟩
        have u130 : c130.slots[((0 : Int32)).toNatClampNeg]? = some (.long v90) := own_at (k := 0) t130 s130 hin130 (by decide) (rfl)
        refine own_go (fun _ k => X111.laload hx (j := (0 : Int32)) (v := (.long v90)) (by rw [e111]; exact R130.1) (State.isArrayOf_alike hZ.alike R130.2.1) R130.2.2 hin130 u130 (g := (mkF m 140 #[.val (.long q_1), .second, .val (.long q_2), .second, .val (.long q_3), .second, .val (.long q_4), .second, .val (.int p_5), .val (.long v90), .second, .val (.long q_4), .second, .val (.ref b92), .val (.ref b100), .val (.int r112), .val (.long v113), .second, .val (.long v114), .second, .val (.int (0 : Int32))] [(.int (0 : Int32)), (.ref b92)])) rfl rfl (hb hby at_140) _ k) ?_
        show own_Go _ _ _ _ T111 (mkF m 141 #[.val (.long q_1), .second, .val (.long q_2), .second, .val (.long q_3), .second, .val (.long q_4), .second, .val (.int p_5), .val (.long v90), .second, .val (.long q_4), .second, .val (.ref b92), .val (.ref b100), .val (.int r112), .val (.long v113), .second, .val (.long v114), .second, .val (.int (0 : Int32))] [(.long v90)])
        refine own_go (fun _ k => XS.lload X111.here hx rfl (hb hby at_141) rfl k) ?_
        show own_Go _ _ _ _ T111 (mkF m 143 #[.val (.long q_1), .second, .val (.long q_2), .second, .val (.long q_3), .second, .val (.long q_4), .second, .val (.int p_5), .val (.long v90), .second, .val (.long q_4), .second, .val (.ref b92), .val (.ref b100), .val (.int r112), .val (.long v113), .second, .val (.long v114), .second, .val (.int (0 : Int32))] [(.long v90), (.long v90)])
        refine own_go (fun _ k => XS.lcmp X111.here hx rfl (hb hby at_143) rfl k) ?_
        show own_Go _ _ _ _ T111 (mkF m 144 #[.val (.long q_1), .second, .val (.long q_2), .second, .val (.long q_3), .second, .val (.long q_4), .second, .val (.int p_5), .val (.long v90), .second, .val (.long q_4), .second, .val (.ref b92), .val (.ref b100), .val (.int r112), .val (.long v113), .second, .val (.long v114), .second, .val (.int (0 : Int32))] [(.int (lcmpW v90 v90))])
        have hc131 : v90 = v90 := rfl
        refine own_go (fun _ k => XS.ifNo X111.here hx rfl (hb hby at_144) rfl (Jvm.Free.XT.ll_ne_f hc131) k) ?_
        show own_Go _ _ _ _ T111 (mkF m 147 #[.val (.long q_1), .second, .val (.long q_2), .second, .val (.long q_3), .second, .val (.long q_4), .second, .val (.int p_5), .val (.long v90), .second, .val (.long q_4), .second, .val (.ref b92), .val (.ref b100), .val (.int r112), .val (.long v113), .second, .val (.long v114), .second, .val (.int (0 : Int32))] [])
        refine own_go (fun _ k => XS.aload X111.here hx rfl (hb hby at_147) rfl rfl k) ?_
        show own_Go _ _ _ _ T111 (mkF m 149 #[.val (.long q_1), .second, .val (.long q_2), .second, .val (.long q_3), .second, .val (.long q_4), .second, .val (.int p_5), .val (.long v90), .second, .val (.long q_4), .second, .val (.ref b92), .val (.ref b100), .val (.int r112), .val (.long v113), .second, .val (.long v114), .second, .val (.int (0 : Int32))] [(.ref b92)])
        refine own_go (fun _ k => XS.iconst X111.here hx rfl (hb hby at_149) k) ?_
        show own_Go _ _ _ _ T111 (mkF m 150 #[.val (.long q_1), .second, .val (.long q_2), .second, .val (.long q_3), .second, .val (.long q_4), .second, .val (.int p_5), .val (.long v90), .second, .val (.long q_4), .second, .val (.ref b92), .val (.ref b100), .val (.int r112), .val (.long v113), .second, .val (.long v114), .second, .val (.int (0 : Int32))] [(.int (1 : Int32)), (.ref b92)])
        obtain ⟨q132, c132, R132, s132, t132⟩ := id f110
        have hin132 : ¬ ((1 : Int32) < 0 ∨ c132.slots.size ≤ ((1 : Int32)).toNatClampNeg) := inb_of s132 ⟨by decide, by decide⟩
        have u132 : c132.slots[((1 : Int32)).toNatClampNeg]? = some (.long q_4) := own_at (k := 1) t132 s132 hin132 (by decide) (rfl)
        refine own_go (fun _ k => X111.laload hx (j := (1 : Int32)) (v := (.long q_4)) (by rw [e111]; exact R132.1) (State.isArrayOf_alike hZ.alike R132.2.1) R132.2.2 hin132 u132 (g := (mkF m 150 #[.val (.long q_1), .second, .val (.long q_2), .second, .val (.long q_3), .second, .val (.long q_4), .second, .val (.int p_5), .val (.long v90), .second, .val (.long q_4), .second, .val (.ref b92), .val (.ref b100), .val (.int r112), .val (.long v113), .second, .val (.long v114), .second, .val (.int (0 : Int32))] [(.int (1 : Int32)), (.ref b92)])) rfl rfl (hb hby at_150) _ k) ?_
        show own_Go _ _ _ _ T111 (mkF m 151 #[.val (.long q_1), .second, .val (.long q_2), .second, .val (.long q_3), .second, .val (.long q_4), .second, .val (.int p_5), .val (.long v90), .second, .val (.long q_4), .second, .val (.ref b92), .val (.ref b100), .val (.int r112), .val (.long v113), .second, .val (.long v114), .second, .val (.int (0 : Int32))] [(.long q_4)])
        refine own_go (fun _ k => XS.lload X111.here hx rfl (hb hby at_151) rfl k) ?_
        show own_Go _ _ _ _ T111 (mkF m 153 #[.val (.long q_1), .second, .val (.long q_2), .second, .val (.long q_3), .second, .val (.long q_4), .second, .val (.int p_5), .val (.long v90), .second, .val (.long q_4), .second, .val (.ref b92), .val (.ref b100), .val (.int r112), .val (.long v113), .second, .val (.long v114), .second, .val (.int (0 : Int32))] [(.long q_4), (.long q_4)])
        refine own_go (fun _ k => XS.lcmp X111.here hx rfl (hb hby at_153) rfl k) ?_
        show own_Go _ _ _ _ T111 (mkF m 154 #[.val (.long q_1), .second, .val (.long q_2), .second, .val (.long q_3), .second, .val (.long q_4), .second, .val (.int p_5), .val (.long v90), .second, .val (.long q_4), .second, .val (.ref b92), .val (.ref b100), .val (.int r112), .val (.long v113), .second, .val (.long v114), .second, .val (.int (0 : Int32))] [(.int (lcmpW q_4 q_4))])
        have hc133 : q_4 = q_4 := rfl
        refine own_go (fun _ k => XS.ifNo X111.here hx rfl (hb hby at_154) rfl (Jvm.Free.XT.ll_ne_f hc133) k) ?_
        show own_Go _ _ _ _ T111 (mkF m 157 #[.val (.long q_1), .second, .val (.long q_2), .second, .val (.long q_3), .second, .val (.long q_4), .second, .val (.int p_5), .val (.long v90), .second, .val (.long q_4), .second, .val (.ref b92), .val (.ref b100), .val (.int r112), .val (.long v113), .second, .val (.long v114), .second, .val (.int (0 : Int32))] [])
        refine own_go (fun _ k => XS.iconst X111.here hx rfl (hb hby at_157) k) ?_
        show own_Go _ _ _ _ T111 (mkF m 158 #[.val (.long q_1), .second, .val (.long q_2), .second, .val (.long q_3), .second, .val (.long q_4), .second, .val (.int p_5), .val (.long v90), .second, .val (.long q_4), .second, .val (.ref b92), .val (.ref b100), .val (.int r112), .val (.long v113), .second, .val (.long v114), .second, .val (.int (0 : Int32))] [(.int (1 : Int32))])
        refine own_go (fun _ k => XS.goto X111.here hx rfl (pc0 := 158) (pc' := 162) rfl (hb hby at_158) (by decide) (by decide) k) ?_
        show own_Go _ _ _ _ T111 (mkF m 162 #[.val (.long q_1), .second, .val (.long q_2), .second, .val (.long q_3), .second, .val (.long q_4), .second, .val (.int p_5), .val (.long v90), .second, .val (.long q_4), .second, .val (.ref b92), .val (.ref b100), .val (.int r112), .val (.long v113), .second, .val (.long v114), .second, .val (.int (0 : Int32))] [(.int (1 : Int32))])
        obtain ⟨fs, hr, hrun, hended, hW, hsame⟩ := X111.leave (v := some (.int (1 : Int32))) (fun h => by rw [Bd.returns] at h; cases h)
        refine ⟨_, _, retOut X111 hx Bd.returns rfl (Or.inl ⟨rfl, Or.inr (Or.inl rfl), _, rfl⟩) (hb hby at_162) hr, hrun, hended, _, _, rfl, ?_, ⟨_, rfl⟩, hW, hsame.mono (by rw [y111]; decide) (by rw [z111]; decide)⟩
        show own_Q0 Z q_1 q_2 q_3 q_4 p_5 h0 n0 _ T111.heap _
        rw [e111]
        exact ⟨rfl, N111⟩
    · refine own_go (fun _ k => XS.ifNo X0.here hx rfl (hb hby at_24) rfl (Jvm.Free.XT.i0_eq_f hc91) k) ?_
      show own_Go _ _ _ _ s₁ (mkF m 27 #[.val (.long q_1), .second, .val (.long q_2), .second, .val (.long q_3), .second, .val (.long q_4), .second, .val (.int p_5), .val (.long v90), .second, .unset, .unset, .unset, .unset, .unset, .unset, .unset, .unset, .unset, .unset] [])
      refine own_go (fun _ k => XS.lload X0.here hx rfl (hb hby at_27) rfl k) ?_
      show own_Go _ _ _ _ s₁ (mkF m 29 #[.val (.long q_1), .second, .val (.long q_2), .second, .val (.long q_3), .second, .val (.long q_4), .second, .val (.int p_5), .val (.long v90), .second, .unset, .unset, .unset, .unset, .unset, .unset, .unset, .unset, .unset, .unset] [(.long q_4)])
      refine own_go (fun _ k => XS.lloadN X0.here hx rfl (hb hby at_29) rfl k) ?_
      show own_Go _ _ _ _ s₁ (mkF m 30 #[.val (.long q_1), .second, .val (.long q_2), .second, .val (.long q_3), .second, .val (.long q_4), .second, .val (.int p_5), .val (.long v90), .second, .unset, .unset, .unset, .unset, .unset, .unset, .unset, .unset, .unset, .unset] [(.long q_1), (.long q_4)])
      refine own_go (fun _ k => XS.land X0.here hx rfl (hb hby at_30) rfl k) ?_
      show own_Go _ _ _ _ s₁ (mkF m 31 #[.val (.long q_1), .second, .val (.long q_2), .second, .val (.long q_3), .second, .val (.long q_4), .second, .val (.int p_5), .val (.long v90), .second, .unset, .unset, .unset, .unset, .unset, .unset, .unset, .unset, .unset, .unset] [(.long (q_4 &&& q_1))])
      refine own_go (fun _ k => XS.lloadN X0.here hx rfl (hb hby at_31) rfl k) ?_
      show own_Go _ _ _ _ s₁ (mkF m 32 #[.val (.long q_1), .second, .val (.long q_2), .second, .val (.long q_3), .second, .val (.long q_4), .second, .val (.int p_5), .val (.long v90), .second, .unset, .unset, .unset, .unset, .unset, .unset, .unset, .unset, .unset, .unset] [(.long q_2), (.long (q_4 &&& q_1))])
      refine own_go (fun _ k => X0.ldc2Long hx hown (mvT hZ (hw _ (List.mem_of_getElem? (i := 0) rfl))) (g := (mkF m 32 #[.val (.long q_1), .second, .val (.long q_2), .second, .val (.long q_3), .second, .val (.long q_4), .second, .val (.int p_5), .val (.long v90), .second, .unset, .unset, .unset, .unset, .unset, .unset, .unset, .unset, .unset, .unset] [(.long q_2), (.long (q_4 &&& q_1))])) rfl (hb hby at_32) _ k) ?_
      show own_Go _ _ _ _ s₁ (mkF m 35 #[.val (.long q_1), .second, .val (.long q_2), .second, .val (.long q_3), .second, .val (.long q_4), .second, .val (.int p_5), .val (.long v90), .second, .unset, .unset, .unset, .unset, .unset, .unset, .unset, .unset, .unset, .unset] [(.long (-1 : Int64)), (.long q_2), (.long (q_4 &&& q_1))])
      refine own_go (fun _ k => XS.lxor X0.here hx rfl (hb hby at_35) rfl k) ?_
      show own_Go _ _ _ _ s₁ (mkF m 36 #[.val (.long q_1), .second, .val (.long q_2), .second, .val (.long q_3), .second, .val (.long q_4), .second, .val (.int p_5), .val (.long v90), .second, .unset, .unset, .unset, .unset, .unset, .unset, .unset, .unset, .unset, .unset] [(.long (q_2 ^^^ (-1 : Int64))), (.long (q_4 &&& q_1))])
      refine own_go (fun _ k => XS.land X0.here hx rfl (hb hby at_36) rfl k) ?_
      show own_Go _ _ _ _ s₁ (mkF m 37 #[.val (.long q_1), .second, .val (.long q_2), .second, .val (.long q_3), .second, .val (.long q_4), .second, .val (.int p_5), .val (.long v90), .second, .unset, .unset, .unset, .unset, .unset, .unset, .unset, .unset, .unset, .unset] [(.long ((q_4 &&& q_1) &&& (q_2 ^^^ (-1 : Int64))))])
      refine own_go (fun _ k => XS.goto X0.here hx rfl (pc0 := 37) (pc' := 42) rfl (hb hby at_37) (by decide) (by decide) k) ?_
      show own_Go _ _ _ _ s₁ (mkF m 42 #[.val (.long q_1), .second, .val (.long q_2), .second, .val (.long q_3), .second, .val (.long q_4), .second, .val (.int p_5), .val (.long v90), .second, .unset, .unset, .unset, .unset, .unset, .unset, .unset, .unset, .unset, .unset] [(.long ((q_4 &&& q_1) &&& (q_2 ^^^ (-1 : Int64))))])
      refine own_go (fun _ k => XS.lstore X0.here hx rfl (hb hby at_42) rfl (l' := #[.val (.long q_1), .second, .val (.long q_2), .second, .val (.long q_3), .second, .val (.long q_4), .second, .val (.int p_5), .val (.long v90), .second, .val (.long ((q_4 &&& q_1) &&& (q_2 ^^^ (-1 : Int64)))), .second, .unset, .unset, .unset, .unset, .unset, .unset, .unset, .unset]) rfl k) ?_
      show own_Go _ _ _ _ s₁ (mkF m 44 #[.val (.long q_1), .second, .val (.long q_2), .second, .val (.long q_3), .second, .val (.long q_4), .second, .val (.int p_5), .val (.long v90), .second, .val (.long ((q_4 &&& q_1) &&& (q_2 ^^^ (-1 : Int64)))), .second, .unset, .unset, .unset, .unset, .unset, .unset, .unset, .unset] [])
      generalize hdv135 : ((q_4 &&& q_1) &&& (q_2 ^^^ (-1 : Int64))) = v135
      show own_Go _ _ _ _ s₁ (mkF m 44 #[.val (.long q_1), .second, .val (.long q_2), .second, .val (.long q_3), .second, .val (.long q_4), .second, .val (.int p_5), .val (.long v90), .second, .val (.long v135), .second, .unset, .unset, .unset, .unset, .unset, .unset, .unset, .unset] [])
      refine own_go (fun _ k => XS.iconst X0.here hx rfl (hb hby at_44) k) ?_
      show own_Go _ _ _ _ s₁ (mkF m 45 #[.val (.long q_1), .second, .val (.long q_2), .second, .val (.long q_3), .second, .val (.long q_4), .second, .val (.int p_5), .val (.long v90), .second, .val (.long v135), .second, .unset, .unset, .unset, .unset, .unset, .unset, .unset, .unset] [(.int (2 : Int32))])
      obtain ⟨T136, h136, k136, X136, e136, E136, A136, st136⟩ := newP X0 hx hZ (hw _ (List.mem_of_getElem? (i := 1) rfl)) e0 (g := (mkF m 45 #[.val (.long q_1), .second, .val (.long q_2), .second, .val (.long q_3), .second, .val (.long q_4), .second, .val (.int p_5), .val (.long v90), .second, .val (.long v135), .second, .unset, .unset, .unset, .unset, .unset, .unset, .unset, .unset] [(.int (2 : Int32))])) rfl (hb hby at_45) rfl (by decide) (cap := 2) (by decide) (by decide) (by decide) (by decide)
      obtain ⟨b136, g136⟩ : ∃ z, z = h0.size := ⟨_, rfl⟩
      rw [← g136] at A136 st136
      have z137 := E136.1
      have lt_b136 := own_lt A136.lt
      have V_b136 : own_AV Z h136 b136 .long (2 : Int32) (fun _ => (.long (0 : Int64))) := own_AV.new A136 (by decide)
      refine own_go (fun _ k => st136 _ k) ?_
      show own_Go _ _ _ _ T136 (mkF m 47 #[.val (.long q_1), .second, .val (.long q_2), .second, .val (.long q_3), .second, .val (.long q_4), .second, .val (.int p_5), .val (.long v90), .second, .val (.long v135), .second, .unset, .unset, .unset, .unset, .unset, .unset, .unset, .unset] [(.ref b136)])
      refine own_go (fun _ k => XS.astore X136.here hx rfl (hb hby at_47) rfl rfl (l' := #[.val (.long q_1), .second, .val (.long q_2), .second, .val (.long q_3), .second, .val (.long q_4), .second, .val (.int p_5), .val (.long v90), .second, .val (.long v135), .second, .val (.ref b136), .unset, .unset, .unset, .unset, .unset, .unset, .unset]) rfl k) ?_
      show own_Go _ _ _ _ T136 (mkF m 49 #[.val (.long q_1), .second, .val (.long q_2), .second, .val (.long q_3), .second, .val (.long q_4), .second, .val (.int p_5), .val (.long v90), .second, .val (.long v135), .second, .val (.ref b136), .unset, .unset, .unset, .unset, .unset, .unset, .unset] [])
      refine own_go (fun _ k => XS.aload X136.here hx rfl (hb hby at_49) rfl rfl k) ?_
      show own_Go _ _ _ _ T136 (mkF m 51 #[.val (.long q_1), .second, .val (.long q_2), .second, .val (.long q_3), .second, .val (.long q_4), .second, .val (.int p_5), .val (.long v90), .second, .val (.long v135), .second, .val (.ref b136), .unset, .unset, .unset, .unset, .unset, .unset, .unset] [(.ref b136)])
      refine own_go (fun _ k => XS.iconst X136.here hx rfl (hb hby at_51) k) ?_
      show own_Go _ _ _ _ T136 (mkF m 52 #[.val (.long q_1), .second, .val (.long q_2), .second, .val (.long q_3), .second, .val (.long q_4), .second, .val (.int p_5), .val (.long v90), .second, .val (.long v135), .second, .val (.ref b136), .unset, .unset, .unset, .unset, .unset, .unset, .unset] [(.int (0 : Int32)), (.ref b136)])
      refine own_go (fun _ k => XS.lload X136.here hx rfl (hb hby at_52) rfl k) ?_
      show own_Go _ _ _ _ T136 (mkF m 54 #[.val (.long q_1), .second, .val (.long q_2), .second, .val (.long q_3), .second, .val (.long q_4), .second, .val (.int p_5), .val (.long v90), .second, .val (.long v135), .second, .val (.ref b136), .unset, .unset, .unset, .unset, .unset, .unset, .unset] [(.long v90), (.int (0 : Int32)), (.ref b136)])
      obtain ⟨q138, c138, R138, s138, t138⟩ := id V_b136
      have hin138 : ¬ ((0 : Int32) < 0 ∨ c138.slots.size ≤ ((0 : Int32)).toNatClampNeg) := inb_of s138 ⟨by decide, by decide⟩
      obtain ⟨T139, h139, X139, e139, W139, st139⟩ := stJ X136 hx hZ e136 R138 (j := (0 : Int32)) hin138 (g := (mkF m 54 #[.val (.long q_1), .second, .val (.long q_2), .second, .val (.long q_3), .second, .val (.long q_4), .second, .val (.int p_5), .val (.long v90), .second, .val (.long v135), .second, .val (.ref b136), .unset, .unset, .unset, .unset, .unset, .unset, .unset] [(.long v90), (.int (0 : Int32)), (.ref b136)])) rfl rfl (hb hby at_54)
      have V139 : own_AV Z h139 b136 .long (2 : Int32) (own_upd (fun _ => (.long (0 : Int64))) 0 (.long v90)) := own_AV.set (k := 0) V_b136 W139 (by decide)
      have z140 := W139.size
      have N139 := Fr.snoc X139 N0 (by omega : n0 ≤ b136)
      refine own_go (fun _ k => st139 _ k) ?_
      show own_Go _ _ _ _ T139 (mkF m 55 #[.val (.long q_1), .second, .val (.long q_2), .second, .val (.long q_3), .second, .val (.long q_4), .second, .val (.int p_5), .val (.long v90), .second, .val (.long v135), .second, .val (.ref b136), .unset, .unset, .unset, .unset, .unset, .unset, .unset] [])
      refine own_go (fun _ k => XS.aload X139.here hx rfl (hb hby at_55) rfl rfl k) ?_
      show own_Go _ _ _ _ T139 (mkF m 57 #[.val (.long q_1), .second, .val (.long q_2), .second, .val (.long q_3), .second, .val (.long q_4), .second, .val (.int p_5), .val (.long v90), .second, .val (.long v135), .second, .val (.ref b136), .unset, .unset, .unset, .unset, .unset, .unset, .unset] [(.ref b136)])
      refine own_go (fun _ k => XS.iconst X139.here hx rfl (hb hby at_57) k) ?_
      show own_Go _ _ _ _ T139 (mkF m 58 #[.val (.long q_1), .second, .val (.long q_2), .second, .val (.long q_3), .second, .val (.long q_4), .second, .val (.int p_5), .val (.long v90), .second, .val (.long v135), .second, .val (.ref b136), .unset, .unset, .unset, .unset, .unset, .unset, .unset] [(.int (1 : Int32)), (.ref b136)])
      refine own_go (fun _ k => XS.lload X139.here hx rfl (hb hby at_58) rfl k) ?_
      show own_Go _ _ _ _ T139 (mkF m 60 #[.val (.long q_1), .second, .val (.long q_2), .second, .val (.long q_3), .second, .val (.long q_4), .second, .val (.int p_5), .val (.long v90), .second, .val (.long v135), .second, .val (.ref b136), .unset, .unset, .unset, .unset, .unset, .unset, .unset] [(.long v135), (.int (1 : Int32)), (.ref b136)])
      obtain ⟨q141, c141, R141, s141, t141⟩ := id V139
      have hin141 : ¬ ((1 : Int32) < 0 ∨ c141.slots.size ≤ ((1 : Int32)).toNatClampNeg) := inb_of s141 ⟨by decide, by decide⟩
      obtain ⟨T142, h142, X142, e142, W142, st142⟩ := stJ X139 hx hZ e139 R141 (j := (1 : Int32)) hin141 (g := (mkF m 60 #[.val (.long q_1), .second, .val (.long q_2), .second, .val (.long q_3), .second, .val (.long q_4), .second, .val (.int p_5), .val (.long v90), .second, .val (.long v135), .second, .val (.ref b136), .unset, .unset, .unset, .unset, .unset, .unset, .unset] [(.long v135), (.int (1 : Int32)), (.ref b136)])) rfl rfl (hb hby at_60)
      have V142 : own_AV Z h142 b136 .long (2 : Int32) (own_upd (own_upd (fun _ => (.long (0 : Int64))) 0 (.long v90)) 1 (.long v135)) := own_AV.set (k := 1) V139 W142 (by decide)
      have z143 := W142.size
      have N142 := Fr.snoc X142 N139 (by omega : n0 ≤ b136)
      refine own_go (fun _ k => st142 _ k) ?_
      show own_Go _ _ _ _ T142 (mkF m 61 #[.val (.long q_1), .second, .val (.long q_2), .second, .val (.long q_3), .second, .val (.long q_4), .second, .val (.int p_5), .val (.long v90), .second, .val (.long v135), .second, .val (.ref b136), .unset, .unset, .unset, .unset, .unset, .unset, .unset] [])
      obtain ⟨T144, h144, X144, e144, E144, A144, D144, Y144, st144⟩ := newO X142 hx hZ hown (hw _ (List.mem_of_getElem? (i := 2) rfl)) (hw _ (List.mem_of_getElem? (i := 3) rfl)) (hw _ (List.mem_of_getElem? (i := 4) rfl)) e142 (g := (mkF m 61 #[.val (.long q_1), .second, .val (.long q_2), .second, .val (.long q_3), .second, .val (.long q_4), .second, .val (.int p_5), .val (.long v90), .second, .val (.long v135), .second, .val (.ref b136), .unset, .unset, .unset, .unset, .unset, .unset, .unset] [])) rfl (hb hby at_61) (by decide) (by decide)
      obtain ⟨b144, g144⟩ : ∃ z, z = h142.size := ⟨_, rfl⟩
      rw [← g144] at A144 D144 Y144 st144
      have z145 := E144.1
      have lt_b144 := own_lt A144.lt
      have F_observed_b144 : Fld Z h144 b144 "com/example/epsilonet/epsilonet/service/ObservationTree$Outcome" "observed" "J" (.long (0 : Int64)) := D144 (Or.inr (hw _ (List.mem_of_getElem? (i := 17) rfl))) (ty := .long) (by decide)
      have F_values_b144 : Fld Z h144 b144 "com/example/epsilonet/epsilonet/service/ObservationTree$Outcome" "values" "J" (.long (0 : Int64)) := D144 (Or.inr (hw _ (List.mem_of_getElem? (i := 19) rfl))) (ty := .long) (by decide)
      refine own_go (fun _ k => st144 _ k) ?_
      show own_Go _ _ _ _ T144 (mkF m 64 #[.val (.long q_1), .second, .val (.long q_2), .second, .val (.long q_3), .second, .val (.long q_4), .second, .val (.int p_5), .val (.long v90), .second, .val (.long v135), .second, .val (.ref b136), .unset, .unset, .unset, .unset, .unset, .unset, .unset] [(.ref b144)])
      refine own_go (fun _ k => XS.dup X144.here hx rfl (hb hby at_64) rfl rfl k) ?_
      show own_Go _ _ _ _ T144 (mkF m 65 #[.val (.long q_1), .second, .val (.long q_2), .second, .val (.long q_3), .second, .val (.long q_4), .second, .val (.int p_5), .val (.long v90), .second, .val (.long v135), .second, .val (.ref b136), .unset, .unset, .unset, .unset, .unset, .unset, .unset] [(.ref b144), (.ref b144)])
      refine own_go (fun _ k => XS.lloadN X144.here hx rfl (hb hby at_65) rfl k) ?_
      show own_Go _ _ _ _ T144 (mkF m 66 #[.val (.long q_1), .second, .val (.long q_2), .second, .val (.long q_3), .second, .val (.long q_4), .second, .val (.int p_5), .val (.long v90), .second, .val (.long v135), .second, .val (.ref b136), .unset, .unset, .unset, .unset, .unset, .unset, .unset] [(.long q_1), (.ref b144), (.ref b144)])
      refine own_go (fun _ k => XS.lloadN X144.here hx rfl (hb hby at_66) rfl k) ?_
      show own_Go _ _ _ _ T144 (mkF m 67 #[.val (.long q_1), .second, .val (.long q_2), .second, .val (.long q_3), .second, .val (.long q_4), .second, .val (.int p_5), .val (.long v90), .second, .val (.long v135), .second, .val (.ref b136), .unset, .unset, .unset, .unset, .unset, .unset, .unset] [(.long q_2), (.long q_1), (.ref b144), (.ref b144)])
      obtain ⟨_, _, ⟨T146, L146, k146, n146⟩, -, X146, ⟨Lc146, hQ146, l146, y146, z146⟩, st146⟩ := X144.specialBack hx (y := (⟨"com/example/epsilonet/epsilonet/service/ObservationTree$Outcome", "<init>", "(JJ)V"⟩ : MethodName)) rfl hown (mvT hZ (hw _ (List.mem_of_getElem? (i := 5) rfl))) (mvT hZ (hw _ (List.mem_of_getElem? (i := 6) rfl))) (mvT hZ (hw _ (List.mem_of_getElem? (i := 7) rfl))) (by decide) (backOf (W := 1) (own_rm1 l Z a0 hw [] b144 q_1 q_2 (0 : Int64) (0 : Int64) h144 n0 (by omega) A144 F_observed_b144 F_values_b144 (by omega)) hZ (hw _ (List.mem_of_getElem? (i := 7) rfl)) (hw _ (List.mem_of_getElem? (i := 4) rfl)) (by decide) (by decide)) (g := (mkF m 67 #[.val (.long q_1), .second, .val (.long q_2), .second, .val (.long q_3), .second, .val (.long q_4), .second, .val (.int p_5), .val (.long v90), .second, .val (.long v135), .second, .val (.ref b136), .unset, .unset, .unset, .unset, .unset, .unset, .unset] [(.long q_2), (.long q_1), (.ref b144), (.ref b144)])) rfl (by rw [hml]; rfl) (Steps.refl _) (a := b144) (argsL := [(.long q_1), (.long q_2)]) (rest := [(.ref b144)]) (lenOf own_pd1 rfl) rfl (by show 2 * 0 + _ ≤ _; exact Nat.le_of_eq rfl) (hb hby at_67) (fun _ _ => ⟨rfl, e144, (by decide : 2 + 0 ≤ _), (by decide : 4 + 0 ≤ _)⟩)
      dsimp only [Pt.U, Pt.locs, Pt.cells, Pt.slots] at X146 l146 y146 z146 st146 hQ146
      have y146 : k146 = 2 := y146
      have z146 : n146 = 4 := z146
      obtain ⟨rfl, N146q, K146q, f147, f148, f149⟩ := hQ146
      have N146 : Fr n0 L146 := by rw [l146]; exact Fr.app N142 N146q
      have z150 := K146q.1
      have z151 := own_lt f147.lt
      have z152 := own_lt f148.lt
      have z153 := own_lt f149.lt
      refine own_go (fun _ k => st146.trans k) ?_
      show own_Go _ _ _ _ T146 (mkF m 70 #[.val (.long q_1), .second, .val (.long q_2), .second, .val (.long q_3), .second, .val (.long q_4), .second, .val (.int p_5), .val (.long v90), .second, .val (.long v135), .second, .val (.ref b136), .unset, .unset, .unset, .unset, .unset, .unset, .unset] [(.ref b144)])
      refine own_go (fun _ k => XS.astore X146.here hx rfl (hb hby at_70) rfl rfl (l' := #[.val (.long q_1), .second, .val (.long q_2), .second, .val (.long q_3), .second, .val (.long q_4), .second, .val (.int p_5), .val (.long v90), .second, .val (.long v135), .second, .val (.ref b136), .val (.ref b144), .unset, .unset, .unset, .unset, .unset, .unset]) rfl k) ?_
      show own_Go _ _ _ _ T146 (mkF m 72 #[.val (.long q_1), .second, .val (.long q_2), .second, .val (.long q_3), .second, .val (.long q_4), .second, .val (.int p_5), .val (.long v90), .second, .val (.long v135), .second, .val (.ref b136), .val (.ref b144), .unset, .unset, .unset, .unset, .unset, .unset] [])
      refine own_go (fun _ k => XS.aload X146.here hx rfl (hb hby at_72) rfl rfl k) ?_
      show own_Go _ _ _ _ T146 (mkF m 74 #[.val (.long q_1), .second, .val (.long q_2), .second, .val (.long q_3), .second, .val (.long q_4), .second, .val (.int p_5), .val (.long v90), .second, .val (.long v135), .second, .val (.ref b136), .val (.ref b144), .unset, .unset, .unset, .unset, .unset, .unset] [(.ref b144)])
      refine own_go (fun _ k => XS.aload X146.here hx rfl (hb hby at_74) rfl rfl k) ?_
      show own_Go _ _ _ _ T146 (mkF m 76 #[.val (.long q_1), .second, .val (.long q_2), .second, .val (.long q_3), .second, .val (.long q_4), .second, .val (.int p_5), .val (.long v90), .second, .val (.long v135), .second, .val (.ref b136), .val (.ref b144), .unset, .unset, .unset, .unset, .unset, .unset] [(.ref b136), (.ref b144)])
      have f154 : own_AV Z T146.heap b136 .long (2 : Int32) (own_upd (own_upd (fun _ => (.long (0 : Int64))) 0 (.long v90)) 1 (.long v135)) := ((V142.ext E144).keep K146q (ninS (own_ne (by omega)) nin0))
      obtain ⟨cq155, kq155, q155a, q155b, q155c⟩ := isOf hZ rfl f147
      obtain ⟨_, _, ⟨T155, L155, k155, n155⟩, -, X155, ⟨Lc155, hQ155, l155, y155, z155⟩, st155⟩ := X146.virtualBack hx (y := (⟨"com/example/epsilonet/epsilonet/service/ObservationTree$Outcome", "makesHold", "([J)Z"⟩ : MethodName)) (z := (⟨"com/example/epsilonet/epsilonet/service/ObservationTree$Outcome", "makesHold", "([J)Z"⟩ : MethodName)) hown (mvT hZ (hw _ (List.mem_of_getElem? (i := 20) rfl))) (mvT hZ (hw _ (List.mem_of_getElem? (i := 21) rfl))) (notFace_of_selects (args := #[]) (mvT hZ (hw _ (List.mem_of_getElem? (i := 23) rfl)))) (mvT hZ (hw _ (List.mem_of_getElem? (i := 23) rfl))) (mvT hZ (hw _ (List.mem_of_getElem? (i := 22) rfl))) (by decide) (backOf (W := 0) (own_rm4 l Z a0 hw [] b144 b136 v90 v135 q_1 q_2 T146.heap n0 (by omega) f154 f148 f149) hZ (hw _ (List.mem_of_getElem? (i := 24) rfl)) (hw _ (List.mem_of_getElem? (i := 4) rfl)) (by decide) (by decide)) q155a q155c (g := (mkF m 76 #[.val (.long q_1), .second, .val (.long q_2), .second, .val (.long q_3), .second, .val (.long q_4), .second, .val (.int p_5), .val (.long v90), .second, .val (.long v135), .second, .val (.ref b136), .val (.ref b144), .unset, .unset, .unset, .unset, .unset, .unset] [(.ref b136), (.ref b144)])) rfl (by rw [hml]; rfl) (Steps.refl _) (argsL := [(.ref b136)]) (rest := []) (lenOf own_pd2 rfl) rfl (by show 2 * 0 + _ ≤ _; exact Nat.le_of_eq rfl) (hb hby at_76) (fun _ _ => ⟨rfl, rfl, (by show k146 + _ ≤ _; rw [y146]; decide), (by show n146 + _ ≤ _; rw [z146]; decide)⟩)
      dsimp only [Pt.U, Pt.locs, Pt.cells, Pt.slots] at X155 l155 y155 z155 st155 hQ155
      have y155 : k155 = 2 := own_addeq y155 (congrArg (fun q => q) y146) rfl
      have z155 : n155 = 4 := own_addeq z155 (congrArg (fun q => q) z146) rfl
      obtain ⟨r156, rfl, N155q, hr_r156, e155⟩ := hQ155
      have N155 : Fr n0 L155 := by rw [l155]; exact Fr.app N146 N155q
      refine own_go (fun _ k => st155.trans k) ?_
      show own_Go _ _ _ _ T155 (mkF m 79 #[.val (.long q_1), .second, .val (.long q_2), .second, .val (.long q_3), .second, .val (.long q_4), .second, .val (.int p_5), .val (.long v90), .second, .val (.long v135), .second, .val (.ref b136), .val (.ref b144), .unset, .unset, .unset, .unset, .unset, .unset] [(.int r156)])
      refine own_go (fun _ k => XS.istore X155.here hx rfl (hb hby at_79) rfl (l' := #[.val (.long q_1), .second, .val (.long q_2), .second, .val (.long q_3), .second, .val (.long q_4), .second, .val (.int p_5), .val (.long v90), .second, .val (.long v135), .second, .val (.ref b136), .val (.ref b144), .val (.int r156), .unset, .unset, .unset, .unset, .unset]) rfl k) ?_
      show own_Go _ _ _ _ T155 (mkF m 81 #[.val (.long q_1), .second, .val (.long q_2), .second, .val (.long q_3), .second, .val (.long q_4), .second, .val (.int p_5), .val (.long v90), .second, .val (.long v135), .second, .val (.ref b136), .val (.ref b144), .val (.int r156), .unset, .unset, .unset, .unset, .unset] [])
      refine own_go (fun _ k => XS.lloadN X155.here hx rfl (hb hby at_81) rfl k) ?_
      show own_Go _ _ _ _ T155 (mkF m 82 #[.val (.long q_1), .second, .val (.long q_2), .second, .val (.long q_3), .second, .val (.long q_4), .second, .val (.int p_5), .val (.long v90), .second, .val (.long v135), .second, .val (.ref b136), .val (.ref b144), .val (.int r156), .unset, .unset, .unset, .unset, .unset] [(.long q_1)])
      refine own_go (fun _ k => XS.lloadN X155.here hx rfl (hb hby at_82) rfl k) ?_
      show own_Go _ _ _ _ T155 (mkF m 83 #[.val (.long q_1), .second, .val (.long q_2), .second, .val (.long q_3), .second, .val (.long q_4), .second, .val (.int p_5), .val (.long v90), .second, .val (.long v135), .second, .val (.ref b136), .val (.ref b144), .val (.int r156), .unset, .unset, .unset, .unset, .unset] [(.long q_2), (.long q_1)])
      refine own_go (fun _ k => XS.land X155.here hx rfl (hb hby at_83) rfl k) ?_
      show own_Go _ _ _ _ T155 (mkF m 84 #[.val (.long q_1), .second, .val (.long q_2), .second, .val (.long q_3), .second, .val (.long q_4), .second, .val (.int p_5), .val (.long v90), .second, .val (.long v135), .second, .val (.ref b136), .val (.ref b144), .val (.int r156), .unset, .unset, .unset, .unset, .unset] [(.long (q_1 &&& q_2))])
      refine own_go (fun _ k => XS.lstore X155.here hx rfl (hb hby at_84) rfl (l' := #[.val (.long q_1), .second, .val (.long q_2), .second, .val (.long q_3), .second, .val (.long q_4), .second, .val (.int p_5), .val (.long v90), .second, .val (.long v135), .second, .val (.ref b136), .val (.ref b144), .val (.int r156), .val (.long (q_1 &&& q_2)), .second, .unset, .unset, .unset]) rfl k) ?_
      show own_Go _ _ _ _ T155 (mkF m 86 #[.val (.long q_1), .second, .val (.long q_2), .second, .val (.long q_3), .second, .val (.long q_4), .second, .val (.int p_5), .val (.long v90), .second, .val (.long v135), .second, .val (.ref b136), .val (.ref b144), .val (.int r156), .val (.long (q_1 &&& q_2)), .second, .unset, .unset, .unset] [])
      generalize hdv157 : (q_1 &&& q_2) = v157
      show own_Go _ _ _ _ T155 (mkF m 86 #[.val (.long q_1), .second, .val (.long q_2), .second, .val (.long q_3), .second, .val (.long q_4), .second, .val (.int p_5), .val (.long v90), .second, .val (.long v135), .second, .val (.ref b136), .val (.ref b144), .val (.int r156), .val (.long v157), .second, .unset, .unset, .unset] [])
      refine own_go (fun _ k => XS.lloadN X155.here hx rfl (hb hby at_86) rfl k) ?_
      show own_Go _ _ _ _ T155 (mkF m 87 #[.val (.long q_1), .second, .val (.long q_2), .second, .val (.long q_3), .second, .val (.long q_4), .second, .val (.int p_5), .val (.long v90), .second, .val (.long v135), .second, .val (.ref b136), .val (.ref b144), .val (.int r156), .val (.long v157), .second, .unset, .unset, .unset] [(.long q_1)])
      refine own_go (fun _ k => XS.lloadN X155.here hx rfl (hb hby at_87) rfl k) ?_
      show own_Go _ _ _ _ T155 (mkF m 88 #[.val (.long q_1), .second, .val (.long q_2), .second, .val (.long q_3), .second, .val (.long q_4), .second, .val (.int p_5), .val (.long v90), .second, .val (.long v135), .second, .val (.ref b136), .val (.ref b144), .val (.int r156), .val (.long v157), .second, .unset, .unset, .unset] [(.long q_2), (.long q_1)])
      refine own_go (fun _ k => X155.ldc2Long hx hown (mvT hZ (hw _ (List.mem_of_getElem? (i := 0) rfl))) (g := (mkF m 88 #[.val (.long q_1), .second, .val (.long q_2), .second, .val (.long q_3), .second, .val (.long q_4), .second, .val (.int p_5), .val (.long v90), .second, .val (.long v135), .second, .val (.ref b136), .val (.ref b144), .val (.int r156), .val (.long v157), .second, .unset, .unset, .unset] [(.long q_2), (.long q_1)])) rfl (hb hby at_88) _ k) ?_
      show own_Go _ _ _ _ T155 (mkF m 91 #[.val (.long q_1), .second, .val (.long q_2), .second, .val (.long q_3), .second, .val (.long q_4), .second, .val (.int p_5), .val (.long v90), .second, .val (.long v135), .second, .val (.ref b136), .val (.ref b144), .val (.int r156), .val (.long v157), .second, .unset, .unset, .unset] [(.long (-1 : Int64)), (.long q_2), (.long q_1)])
      refine own_go (fun _ k => XS.lxor X155.here hx rfl (hb hby at_91) rfl k) ?_
      show own_Go _ _ _ _ T155 (mkF m 92 #[.val (.long q_1), .second, .val (.long q_2), .second, .val (.long q_3), .second, .val (.long q_4), .second, .val (.int p_5), .val (.long v90), .second, .val (.long v135), .second, .val (.ref b136), .val (.ref b144), .val (.int r156), .val (.long v157), .second, .unset, .unset, .unset] [(.long (q_2 ^^^ (-1 : Int64))), (.long q_1)])
      refine own_go (fun _ k => XS.land X155.here hx rfl (hb hby at_92) rfl k) ?_
      show own_Go _ _ _ _ T155 (mkF m 93 #[.val (.long q_1), .second, .val (.long q_2), .second, .val (.long q_3), .second, .val (.long q_4), .second, .val (.int p_5), .val (.long v90), .second, .val (.long v135), .second, .val (.ref b136), .val (.ref b144), .val (.int r156), .val (.long v157), .second, .unset, .unset, .unset] [(.long (q_1 &&& (q_2 ^^^ (-1 : Int64))))])
      refine own_go (fun _ k => XS.lstore X155.here hx rfl (hb hby at_93) rfl (l' := #[.val (.long q_1), .second, .val (.long q_2), .second, .val (.long q_3), .second, .val (.long q_4), .second, .val (.int p_5), .val (.long v90), .second, .val (.long v135), .second, .val (.ref b136), .val (.ref b144), .val (.int r156), .val (.long v157), .second, .val (.long (q_1 &&& (q_2 ^^^ (-1 : Int64)))), .second, .unset]) rfl k) ?_
      show own_Go _ _ _ _ T155 (mkF m 95 #[.val (.long q_1), .second, .val (.long q_2), .second, .val (.long q_3), .second, .val (.long q_4), .second, .val (.int p_5), .val (.long v90), .second, .val (.long v135), .second, .val (.ref b136), .val (.ref b144), .val (.int r156), .val (.long v157), .second, .val (.long (q_1 &&& (q_2 ^^^ (-1 : Int64)))), .second, .unset] [])
      generalize hdv158 : (q_1 &&& (q_2 ^^^ (-1 : Int64))) = v158
      show own_Go _ _ _ _ T155 (mkF m 95 #[.val (.long q_1), .second, .val (.long q_2), .second, .val (.long q_3), .second, .val (.long q_4), .second, .val (.int p_5), .val (.long v90), .second, .val (.long v135), .second, .val (.ref b136), .val (.ref b144), .val (.int r156), .val (.long v157), .second, .val (.long v158), .second, .unset] [])
      refine own_go (fun _ k => XS.lload X155.here hx rfl (hb hby at_95) rfl k) ?_
      show own_Go _ _ _ _ T155 (mkF m 97 #[.val (.long q_1), .second, .val (.long q_2), .second, .val (.long q_3), .second, .val (.long q_4), .second, .val (.int p_5), .val (.long v90), .second, .val (.long v135), .second, .val (.ref b136), .val (.ref b144), .val (.int r156), .val (.long v157), .second, .val (.long v158), .second, .unset] [(.long v90)])
      refine own_go (fun _ k => XS.lload X155.here hx rfl (hb hby at_97) rfl k) ?_
      show own_Go _ _ _ _ T155 (mkF m 99 #[.val (.long q_1), .second, .val (.long q_2), .second, .val (.long q_3), .second, .val (.long q_4), .second, .val (.int p_5), .val (.long v90), .second, .val (.long v135), .second, .val (.ref b136), .val (.ref b144), .val (.int r156), .val (.long v157), .second, .val (.long v158), .second, .unset] [(.long v157), (.long v90)])
      refine own_go (fun _ k => X155.ldc2Long hx hown (mvT hZ (hw _ (List.mem_of_getElem? (i := 0) rfl))) (g := (mkF m 99 #[.val (.long q_1), .second, .val (.long q_2), .second, .val (.long q_3), .second, .val (.long q_4), .second, .val (.int p_5), .val (.long v90), .second, .val (.long v135), .second, .val (.ref b136), .val (.ref b144), .val (.int r156), .val (.long v157), .second, .val (.long v158), .second, .unset] [(.long v157), (.long v90)])) rfl (hb hby at_99) _ k) ?_
      show own_Go _ _ _ _ T155 (mkF m 102 #[.val (.long q_1), .second, .val (.long q_2), .second, .val (.long q_3), .second, .val (.long q_4), .second, .val (.int p_5), .val (.long v90), .second, .val (.long v135), .second, .val (.ref b136), .val (.ref b144), .val (.int r156), .val (.long v157), .second, .val (.long v158), .second, .unset] [(.long (-1 : Int64)), (.long v157), (.long v90)])
      refine own_go (fun _ k => XS.lxor X155.here hx rfl (hb hby at_102) rfl k) ?_
      show own_Go _ _ _ _ T155 (mkF m 103 #[.val (.long q_1), .second, .val (.long q_2), .second, .val (.long q_3), .second, .val (.long q_4), .second, .val (.int p_5), .val (.long v90), .second, .val (.long v135), .second, .val (.ref b136), .val (.ref b144), .val (.int r156), .val (.long v157), .second, .val (.long v158), .second, .unset] [(.long (v157 ^^^ (-1 : Int64))), (.long v90)])
      refine own_go (fun _ k => XS.land X155.here hx rfl (hb hby at_103) rfl k) ?_
      show own_Go _ _ _ _ T155 (mkF m 104 #[.val (.long q_1), .second, .val (.long q_2), .second, .val (.long q_3), .second, .val (.long q_4), .second, .val (.int p_5), .val (.long v90), .second, .val (.long v135), .second, .val (.ref b136), .val (.ref b144), .val (.int r156), .val (.long v157), .second, .val (.long v158), .second, .unset] [(.long (v90 &&& (v157 ^^^ (-1 : Int64))))])
      refine own_go (fun _ k => XS.lconst X155.here hx rfl (hb hby at_104) k) ?_
      show own_Go _ _ _ _ T155 (mkF m 105 #[.val (.long q_1), .second, .val (.long q_2), .second, .val (.long q_3), .second, .val (.long q_4), .second, .val (.int p_5), .val (.long v90), .second, .val (.long v135), .second, .val (.ref b136), .val (.ref b144), .val (.int r156), .val (.long v157), .second, .val (.long v158), .second, .unset] [(.long (0 : Int64)), (.long (v90 &&& (v157 ^^^ (-1 : Int64))))])
      refine own_go (fun _ k => XS.lcmp X155.here hx rfl (hb hby at_105) rfl k) ?_
      show own_Go _ _ _ _ T155 (mkF m 106 #[.val (.long q_1), .second, .val (.long q_2), .second, .val (.long q_3), .second, .val (.long q_4), .second, .val (.int p_5), .val (.long v90), .second, .val (.long v135), .second, .val (.ref b136), .val (.ref b144), .val (.int r156), .val (.long v157), .second, .val (.long v158), .second, .unset] [(.int (lcmpW (v90 &&& (v157 ^^^ (-1 : Int64))) (0 : Int64)))])
      by_cases hc159 : (v90 &&& (v157 ^^^ (-1 : Int64))) = (0 : Int64)
      · refine own_go (fun _ k => XS.ifNo X155.here hx rfl (hb hby at_106) rfl (Jvm.Free.XT.ll_ne_f hc159) k) ?_
        show own_Go _ _ _ _ T155 (mkF m 109 #[.val (.long q_1), .second, .val (.long q_2), .second, .val (.long q_3), .second, .val (.long q_4), .second, .val (.int p_5), .val (.long v90), .second, .val (.long v135), .second, .val (.ref b136), .val (.ref b144), .val (.int r156), .val (.long v157), .second, .val (.long v158), .second, .unset] [])
        refine own_go (fun _ k => XS.lload X155.here hx rfl (hb hby at_109) rfl k) ?_
        show own_Go _ _ _ _ T155 (mkF m 111 #[.val (.long q_1), .second, .val (.long q_2), .second, .val (.long q_3), .second, .val (.long q_4), .second, .val (.int p_5), .val (.long v90), .second, .val (.long v135), .second, .val (.ref b136), .val (.ref b144), .val (.int r156), .val (.long v157), .second, .val (.long v158), .second, .unset] [(.long v135)])
        refine own_go (fun _ k => XS.lload X155.here hx rfl (hb hby at_111) rfl k) ?_
        show own_Go _ _ _ _ T155 (mkF m 113 #[.val (.long q_1), .second, .val (.long q_2), .second, .val (.long q_3), .second, .val (.long q_4), .second, .val (.int p_5), .val (.long v90), .second, .val (.long v135), .second, .val (.ref b136), .val (.ref b144), .val (.int r156), .val (.long v157), .second, .val (.long v158), .second, .unset] [(.long v158), (.long v135)])
        refine own_go (fun _ k => X155.ldc2Long hx hown (mvT hZ (hw _ (List.mem_of_getElem? (i := 0) rfl))) (g := (mkF m 113 #[.val (.long q_1), .second, .val (.long q_2), .second, .val (.long q_3), .second, .val (.long q_4), .second, .val (.int p_5), .val (.long v90), .second, .val (.long v135), .second, .val (.ref b136), .val (.ref b144), .val (.int r156), .val (.long v157), .second, .val (.long v158), .second, .unset] [(.long v158), (.long v135)])) rfl (hb hby at_113) _ k) ?_
        show own_Go _ _ _ _ T155 (mkF m 116 #[.val (.long q_1), .second, .val (.long q_2), .second, .val (.long q_3), .second, .val (.long q_4), .second, .val (.int p_5), .val (.long v90), .second, .val (.long v135), .second, .val (.ref b136), .val (.ref b144), .val (.int r156), .val (.long v157), .second, .val (.long v158), .second, .unset] [(.long (-1 : Int64)), (.long v158), (.long v135)])
        refine own_go (fun _ k => XS.lxor X155.here hx rfl (hb hby at_116) rfl k) ?_
        show own_Go _ _ _ _ T155 (mkF m 117 #[.val (.long q_1), .second, .val (.long q_2), .second, .val (.long q_3), .second, .val (.long q_4), .second, .val (.int p_5), .val (.long v90), .second, .val (.long v135), .second, .val (.ref b136), .val (.ref b144), .val (.int r156), .val (.long v157), .second, .val (.long v158), .second, .unset] [(.long (v158 ^^^ (-1 : Int64))), (.long v135)])
        refine own_go (fun _ k => XS.land X155.here hx rfl (hb hby at_117) rfl k) ?_
        show own_Go _ _ _ _ T155 (mkF m 118 #[.val (.long q_1), .second, .val (.long q_2), .second, .val (.long q_3), .second, .val (.long q_4), .second, .val (.int p_5), .val (.long v90), .second, .val (.long v135), .second, .val (.ref b136), .val (.ref b144), .val (.int r156), .val (.long v157), .second, .val (.long v158), .second, .unset] [(.long (v135 &&& (v158 ^^^ (-1 : Int64))))])
        refine own_go (fun _ k => XS.lconst X155.here hx rfl (hb hby at_118) k) ?_
        show own_Go _ _ _ _ T155 (mkF m 119 #[.val (.long q_1), .second, .val (.long q_2), .second, .val (.long q_3), .second, .val (.long q_4), .second, .val (.int p_5), .val (.long v90), .second, .val (.long v135), .second, .val (.ref b136), .val (.ref b144), .val (.int r156), .val (.long v157), .second, .val (.long v158), .second, .unset] [(.long (0 : Int64)), (.long (v135 &&& (v158 ^^^ (-1 : Int64))))])
        refine own_go (fun _ k => XS.lcmp X155.here hx rfl (hb hby at_119) rfl k) ?_
        show own_Go _ _ _ _ T155 (mkF m 120 #[.val (.long q_1), .second, .val (.long q_2), .second, .val (.long q_3), .second, .val (.long q_4), .second, .val (.int p_5), .val (.long v90), .second, .val (.long v135), .second, .val (.ref b136), .val (.ref b144), .val (.int r156), .val (.long v157), .second, .val (.long v158), .second, .unset] [(.int (lcmpW (v135 &&& (v158 ^^^ (-1 : Int64))) (0 : Int64)))])
        by_cases hc160 : (v135 &&& (v158 ^^^ (-1 : Int64))) = (0 : Int64)
        · refine own_go (fun _ k => XS.ifNo X155.here hx rfl (hb hby at_120) rfl (Jvm.Free.XT.ll_ne_f hc160) k) ?_
          show own_Go _ _ _ _ T155 (mkF m 123 #[.val (.long q_1), .second, .val (.long q_2), .second, .val (.long q_3), .second, .val (.long q_4), .second, .val (.int p_5), .val (.long v90), .second, .val (.long v135), .second, .val (.ref b136), .val (.ref b144), .val (.int r156), .val (.long v157), .second, .val (.long v158), .second, .unset] [])
          refine own_go (fun _ k => XS.iconst X155.here hx rfl (hb hby at_123) k) ?_
          show own_Go _ _ _ _ T155 (mkF m 124 #[.val (.long q_1), .second, .val (.long q_2), .second, .val (.long q_3), .second, .val (.long q_4), .second, .val (.int p_5), .val (.long v90), .second, .val (.long v135), .second, .val (.ref b136), .val (.ref b144), .val (.int r156), .val (.long v157), .second, .val (.long v158), .second, .unset] [(.int (1 : Int32))])
          refine own_go (fun _ k => XS.goto X155.here hx rfl (pc0 := 124) (pc' := 128) rfl (hb hby at_124) (by decide) (by decide) k) ?_
          show own_Go _ _ _ _ T155 (mkF m 128 #[.val (.long q_1), .second, .val (.long q_2), .second, .val (.long q_3), .second, .val (.long q_4), .second, .val (.int p_5), .val (.long v90), .second, .val (.long v135), .second, .val (.ref b136), .val (.ref b144), .val (.int r156), .val (.long v157), .second, .val (.long v158), .second, .unset] [(.int (1 : Int32))])
          refine own_go (fun _ k => XS.istore X155.here hx rfl (hb hby at_128) rfl (l' := #[.val (.long q_1), .second, .val (.long q_2), .second, .val (.long q_3), .second, .val (.long q_4), .second, .val (.int p_5), .val (.long v90), .second, .val (.long v135), .second, .val (.ref b136), .val (.ref b144), .val (.int r156), .val (.long v157), .second, .val (.long v158), .second, .val (.int (1 : Int32))]) rfl k) ?_
          show own_Go _ _ _ _ T155 (mkF m 130 #[.val (.long q_1), .second, .val (.long q_2), .second, .val (.long q_3), .second, .val (.long q_4), .second, .val (.int p_5), .val (.long v90), .second, .val (.long v135), .second, .val (.ref b136), .val (.ref b144), .val (.int r156), .val (.long v157), .second, .val (.long v158), .second, .val (.int (1 : Int32))] [])
          refine own_go (fun _ k => XS.iload X155.here hx rfl (hb hby at_130) rfl k) ?_
          show own_Go _ _ _ _ T155 (mkF m 132 #[.val (.long q_1), .second, .val (.long q_2), .second, .val (.long q_3), .second, .val (.long q_4), .second, .val (.int p_5), .val (.long v90), .second, .val (.long v135), .second, .val (.ref b136), .val (.ref b144), .val (.int r156), .val (.long v157), .second, .val (.long v158), .second, .val (.int (1 : Int32))] [(.int r156)])
          refine own_go (fun _ k => XS.iload X155.here hx rfl (hb hby at_132) rfl k) ?_
          show own_Go _ _ _ _ T155 (mkF m 134 #[.val (.long q_1), .second, .val (.long q_2), .second, .val (.long q_3), .second, .val (.long q_4), .second, .val (.int p_5), .val (.long v90), .second, .val (.long v135), .second, .val (.ref b136), .val (.ref b144), .val (.int r156), .val (.long v157), .second, .val (.long v158), .second, .val (.int (1 : Int32))] [(.int (1 : Int32)), (.int r156)])
          have hc161 : r156 = (1 : Int32) := own_t0_9 q_1 q_2 q_3 q_4 v90 v135 r156 v157 v158 hdv90 hdv135 hr_r156 hdv157 hdv158 hc159 hc160
          refine own_go (fun _ k => XS.icmpNo X155.here hx rfl (hb hby at_134) rfl (Jvm.Free.XT.ii_ne_f hc161) k) ?_
          show own_Go _ _ _ _ T155 (mkF m 137 #[.val (.long q_1), .second, .val (.long q_2), .second, .val (.long q_3), .second, .val (.long q_4), .second, .val (.int p_5), .val (.long v90), .second, .val (.long v135), .second, .val (.ref b136), .val (.ref b144), .val (.int r156), .val (.long v157), .second, .val (.long v158), .second, .val (.int (1 : Int32))] [])
          refine own_go (fun _ k => XS.aload X155.here hx rfl (hb hby at_137) rfl rfl k) ?_
          show own_Go _ _ _ _ T155 (mkF m 139 #[.val (.long q_1), .second, .val (.long q_2), .second, .val (.long q_3), .second, .val (.long q_4), .second, .val (.int p_5), .val (.long v90), .second, .val (.long v135), .second, .val (.ref b136), .val (.ref b144), .val (.int r156), .val (.long v157), .second, .val (.long v158), .second, .val (.int (1 : Int32))] [(.ref b136)])
          refine own_go (fun _ k => XS.iconst X155.here hx rfl (hb hby at_139) k) ?_
          show own_Go _ _ _ _ T155 (mkF m 140 #[.val (.long q_1), .second, .val (.long q_2), .second, .val (.long q_3), .second, .val (.long q_4), .second, .val (.int p_5), .val (.long v90), .second, .val (.long v135), .second, .val (.ref b136), .val (.ref b144), .val (.int r156), .val (.long v157), .second, .val (.long v158), .second, .val (.int (1 : Int32))] [(.int (0 : Int32)), (.ref b136)])
          obtain ⟨q162, c162, R162, s162, t162⟩ := id f154
          have hin162 : ¬ ((0 : Int32) < 0 ∨ c162.slots.size ≤ ((0 : Int32)).toNatClampNeg) := inb_of s162 ⟨by decide, by decide⟩
          have u162 : c162.slots[((0 : Int32)).toNatClampNeg]? = some (.long v90) := own_at (k := 0) t162 s162 hin162 (by decide) (rfl)
          refine own_go (fun _ k => X155.laload hx (j := (0 : Int32)) (v := (.long v90)) (by rw [e155]; exact R162.1) (State.isArrayOf_alike hZ.alike R162.2.1) R162.2.2 hin162 u162 (g := (mkF m 140 #[.val (.long q_1), .second, .val (.long q_2), .second, .val (.long q_3), .second, .val (.long q_4), .second, .val (.int p_5), .val (.long v90), .second, .val (.long v135), .second, .val (.ref b136), .val (.ref b144), .val (.int r156), .val (.long v157), .second, .val (.long v158), .second, .val (.int (1 : Int32))] [(.int (0 : Int32)), (.ref b136)])) rfl rfl (hb hby at_140) _ k) ?_
          show own_Go _ _ _ _ T155 (mkF m 141 #[.val (.long q_1), .second, .val (.long q_2), .second, .val (.long q_3), .second, .val (.long q_4), .second, .val (.int p_5), .val (.long v90), .second, .val (.long v135), .second, .val (.ref b136), .val (.ref b144), .val (.int r156), .val (.long v157), .second, .val (.long v158), .second, .val (.int (1 : Int32))] [(.long v90)])
          refine own_go (fun _ k => XS.lload X155.here hx rfl (hb hby at_141) rfl k) ?_
          show own_Go _ _ _ _ T155 (mkF m 143 #[.val (.long q_1), .second, .val (.long q_2), .second, .val (.long q_3), .second, .val (.long q_4), .second, .val (.int p_5), .val (.long v90), .second, .val (.long v135), .second, .val (.ref b136), .val (.ref b144), .val (.int r156), .val (.long v157), .second, .val (.long v158), .second, .val (.int (1 : Int32))] [(.long v90), (.long v90)])
          refine own_go (fun _ k => XS.lcmp X155.here hx rfl (hb hby at_143) rfl k) ?_
          show own_Go _ _ _ _ T155 (mkF m 144 #[.val (.long q_1), .second, .val (.long q_2), .second, .val (.long q_3), .second, .val (.long q_4), .second, .val (.int p_5), .val (.long v90), .second, .val (.long v135), .second, .val (.ref b136), .val (.ref b144), .val (.int r156), .val (.long v157), .second, .val (.long v158), .second, .val (.int (1 : Int32))] [(.int (lcmpW v90 v90))])
          have hc163 : v90 = v90 := rfl
          refine own_go (fun _ k => XS.ifNo X155.here hx rfl (hb hby at_144) rfl (Jvm.Free.XT.ll_ne_f hc163) k) ?_
          show own_Go _ _ _ _ T155 (mkF m 147 #[.val (.long q_1), .second, .val (.long q_2), .second, .val (.long q_3), .second, .val (.long q_4), .second, .val (.int p_5), .val (.long v90), .second, .val (.long v135), .second, .val (.ref b136), .val (.ref b144), .val (.int r156), .val (.long v157), .second, .val (.long v158), .second, .val (.int (1 : Int32))] [])
          refine own_go (fun _ k => XS.aload X155.here hx rfl (hb hby at_147) rfl rfl k) ?_
          show own_Go _ _ _ _ T155 (mkF m 149 #[.val (.long q_1), .second, .val (.long q_2), .second, .val (.long q_3), .second, .val (.long q_4), .second, .val (.int p_5), .val (.long v90), .second, .val (.long v135), .second, .val (.ref b136), .val (.ref b144), .val (.int r156), .val (.long v157), .second, .val (.long v158), .second, .val (.int (1 : Int32))] [(.ref b136)])
          refine own_go (fun _ k => XS.iconst X155.here hx rfl (hb hby at_149) k) ?_
          show own_Go _ _ _ _ T155 (mkF m 150 #[.val (.long q_1), .second, .val (.long q_2), .second, .val (.long q_3), .second, .val (.long q_4), .second, .val (.int p_5), .val (.long v90), .second, .val (.long v135), .second, .val (.ref b136), .val (.ref b144), .val (.int r156), .val (.long v157), .second, .val (.long v158), .second, .val (.int (1 : Int32))] [(.int (1 : Int32)), (.ref b136)])
          obtain ⟨q164, c164, R164, s164, t164⟩ := id f154
          have hin164 : ¬ ((1 : Int32) < 0 ∨ c164.slots.size ≤ ((1 : Int32)).toNatClampNeg) := inb_of s164 ⟨by decide, by decide⟩
          have u164 : c164.slots[((1 : Int32)).toNatClampNeg]? = some (.long v135) := own_at (k := 1) t164 s164 hin164 (by decide) (rfl)
          refine own_go (fun _ k => X155.laload hx (j := (1 : Int32)) (v := (.long v135)) (by rw [e155]; exact R164.1) (State.isArrayOf_alike hZ.alike R164.2.1) R164.2.2 hin164 u164 (g := (mkF m 150 #[.val (.long q_1), .second, .val (.long q_2), .second, .val (.long q_3), .second, .val (.long q_4), .second, .val (.int p_5), .val (.long v90), .second, .val (.long v135), .second, .val (.ref b136), .val (.ref b144), .val (.int r156), .val (.long v157), .second, .val (.long v158), .second, .val (.int (1 : Int32))] [(.int (1 : Int32)), (.ref b136)])) rfl rfl (hb hby at_150) _ k) ?_
          show own_Go _ _ _ _ T155 (mkF m 151 #[.val (.long q_1), .second, .val (.long q_2), .second, .val (.long q_3), .second, .val (.long q_4), .second, .val (.int p_5), .val (.long v90), .second, .val (.long v135), .second, .val (.ref b136), .val (.ref b144), .val (.int r156), .val (.long v157), .second, .val (.long v158), .second, .val (.int (1 : Int32))] [(.long v135)])
          refine own_go (fun _ k => XS.lload X155.here hx rfl (hb hby at_151) rfl k) ?_
          show own_Go _ _ _ _ T155 (mkF m 153 #[.val (.long q_1), .second, .val (.long q_2), .second, .val (.long q_3), .second, .val (.long q_4), .second, .val (.int p_5), .val (.long v90), .second, .val (.long v135), .second, .val (.ref b136), .val (.ref b144), .val (.int r156), .val (.long v157), .second, .val (.long v158), .second, .val (.int (1 : Int32))] [(.long v135), (.long v135)])
          refine own_go (fun _ k => XS.lcmp X155.here hx rfl (hb hby at_153) rfl k) ?_
          show own_Go _ _ _ _ T155 (mkF m 154 #[.val (.long q_1), .second, .val (.long q_2), .second, .val (.long q_3), .second, .val (.long q_4), .second, .val (.int p_5), .val (.long v90), .second, .val (.long v135), .second, .val (.ref b136), .val (.ref b144), .val (.int r156), .val (.long v157), .second, .val (.long v158), .second, .val (.int (1 : Int32))] [(.int (lcmpW v135 v135))])
          have hc165 : v135 = v135 := rfl
          refine own_go (fun _ k => XS.ifNo X155.here hx rfl (hb hby at_154) rfl (Jvm.Free.XT.ll_ne_f hc165) k) ?_
          show own_Go _ _ _ _ T155 (mkF m 157 #[.val (.long q_1), .second, .val (.long q_2), .second, .val (.long q_3), .second, .val (.long q_4), .second, .val (.int p_5), .val (.long v90), .second, .val (.long v135), .second, .val (.ref b136), .val (.ref b144), .val (.int r156), .val (.long v157), .second, .val (.long v158), .second, .val (.int (1 : Int32))] [])
          refine own_go (fun _ k => XS.iconst X155.here hx rfl (hb hby at_157) k) ?_
          show own_Go _ _ _ _ T155 (mkF m 158 #[.val (.long q_1), .second, .val (.long q_2), .second, .val (.long q_3), .second, .val (.long q_4), .second, .val (.int p_5), .val (.long v90), .second, .val (.long v135), .second, .val (.ref b136), .val (.ref b144), .val (.int r156), .val (.long v157), .second, .val (.long v158), .second, .val (.int (1 : Int32))] [(.int (1 : Int32))])
          refine own_go (fun _ k => XS.goto X155.here hx rfl (pc0 := 158) (pc' := 162) rfl (hb hby at_158) (by decide) (by decide) k) ?_
          show own_Go _ _ _ _ T155 (mkF m 162 #[.val (.long q_1), .second, .val (.long q_2), .second, .val (.long q_3), .second, .val (.long q_4), .second, .val (.int p_5), .val (.long v90), .second, .val (.long v135), .second, .val (.ref b136), .val (.ref b144), .val (.int r156), .val (.long v157), .second, .val (.long v158), .second, .val (.int (1 : Int32))] [(.int (1 : Int32))])
          obtain ⟨fs, hr, hrun, hended, hW, hsame⟩ := X155.leave (v := some (.int (1 : Int32))) (fun h => by rw [Bd.returns] at h; cases h)
          refine ⟨_, _, retOut X155 hx Bd.returns rfl (Or.inl ⟨rfl, Or.inr (Or.inl rfl), _, rfl⟩) (hb hby at_162) hr, hrun, hended, _, _, rfl, ?_, ⟨_, rfl⟩, hW, hsame.mono (by rw [y155]; decide) (by rw [z155]; decide)⟩
          show own_Q0 Z q_1 q_2 q_3 q_4 p_5 h0 n0 _ T155.heap _
          rw [e155]
          exact ⟨rfl, N155⟩
        · refine own_go (fun _ k => XS.ifYes X155.here hx rfl (pc0 := 120) (pc' := 127) rfl (hb hby at_120) rfl (Jvm.Free.XT.ll_ne_t hc160) (by decide) (by decide) k) ?_
          show own_Go _ _ _ _ T155 (mkF m 127 #[.val (.long q_1), .second, .val (.long q_2), .second, .val (.long q_3), .second, .val (.long q_4), .second, .val (.int p_5), .val (.long v90), .second, .val (.long v135), .second, .val (.ref b136), .val (.ref b144), .val (.int r156), .val (.long v157), .second, .val (.long v158), .second, .unset] [])
          refine own_go (fun _ k => XS.iconst X155.here hx rfl (hb hby at_127) k) ?_
          show own_Go _ _ _ _ T155 (mkF m 128 #[.val (.long q_1), .second, .val (.long q_2), .second, .val (.long q_3), .second, .val (.long q_4), .second, .val (.int p_5), .val (.long v90), .second, .val (.long v135), .second, .val (.ref b136), .val (.ref b144), .val (.int r156), .val (.long v157), .second, .val (.long v158), .second, .unset] [(.int (0 : Int32))])
          refine own_go (fun _ k => XS.istore X155.here hx rfl (hb hby at_128) rfl (l' := #[.val (.long q_1), .second, .val (.long q_2), .second, .val (.long q_3), .second, .val (.long q_4), .second, .val (.int p_5), .val (.long v90), .second, .val (.long v135), .second, .val (.ref b136), .val (.ref b144), .val (.int r156), .val (.long v157), .second, .val (.long v158), .second, .val (.int (0 : Int32))]) rfl k) ?_
          show own_Go _ _ _ _ T155 (mkF m 130 #[.val (.long q_1), .second, .val (.long q_2), .second, .val (.long q_3), .second, .val (.long q_4), .second, .val (.int p_5), .val (.long v90), .second, .val (.long v135), .second, .val (.ref b136), .val (.ref b144), .val (.int r156), .val (.long v157), .second, .val (.long v158), .second, .val (.int (0 : Int32))] [])
          refine own_go (fun _ k => XS.iload X155.here hx rfl (hb hby at_130) rfl k) ?_
          show own_Go _ _ _ _ T155 (mkF m 132 #[.val (.long q_1), .second, .val (.long q_2), .second, .val (.long q_3), .second, .val (.long q_4), .second, .val (.int p_5), .val (.long v90), .second, .val (.long v135), .second, .val (.ref b136), .val (.ref b144), .val (.int r156), .val (.long v157), .second, .val (.long v158), .second, .val (.int (0 : Int32))] [(.int r156)])
          refine own_go (fun _ k => XS.iload X155.here hx rfl (hb hby at_132) rfl k) ?_
          show own_Go _ _ _ _ T155 (mkF m 134 #[.val (.long q_1), .second, .val (.long q_2), .second, .val (.long q_3), .second, .val (.long q_4), .second, .val (.int p_5), .val (.long v90), .second, .val (.long v135), .second, .val (.ref b136), .val (.ref b144), .val (.int r156), .val (.long v157), .second, .val (.long v158), .second, .val (.int (0 : Int32))] [(.int (0 : Int32)), (.int r156)])
          have hc167 : r156 = (0 : Int32) := own_t0_10 q_1 q_2 q_3 q_4 v90 v135 r156 v157 v158 hdv90 hdv135 hr_r156 hdv157 hdv158 hc159 hc160
          refine own_go (fun _ k => XS.icmpNo X155.here hx rfl (hb hby at_134) rfl (Jvm.Free.XT.ii_ne_f hc167) k) ?_
          show own_Go _ _ _ _ T155 (mkF m 137 #[.val (.long q_1), .second, .val (.long q_2), .second, .val (.long q_3), .second, .val (.long q_4), .second, .val (.int p_5), .val (.long v90), .second, .val (.long v135), .second, .val (.ref b136), .val (.ref b144), .val (.int r156), .val (.long v157), .second, .val (.long v158), .second, .val (.int (0 : Int32))] [])
          refine own_go (fun _ k => XS.aload X155.here hx rfl (hb hby at_137) rfl rfl k) ?_
          show own_Go _ _ _ _ T155 (mkF m 139 #[.val (.long q_1), .second, .val (.long q_2), .second, .val (.long q_3), .second, .val (.long q_4), .second, .val (.int p_5), .val (.long v90), .second, .val (.long v135), .second, .val (.ref b136), .val (.ref b144), .val (.int r156), .val (.long v157), .second, .val (.long v158), .second, .val (.int (0 : Int32))] [(.ref b136)])
          refine own_go (fun _ k => XS.iconst X155.here hx rfl (hb hby at_139) k) ?_
          show own_Go _ _ _ _ T155 (mkF m 140 #[.val (.long q_1), .second, .val (.long q_2), .second, .val (.long q_3), .second, .val (.long q_4), .second, .val (.int p_5), .val (.long v90), .second, .val (.long v135), .second, .val (.ref b136), .val (.ref b144), .val (.int r156), .val (.long v157), .second, .val (.long v158), .second, .val (.int (0 : Int32))] [(.int (0 : Int32)), (.ref b136)])
          obtain ⟨q168, c168, R168, s168, t168⟩ := id f154
          have hin168 : ¬ ((0 : Int32) < 0 ∨ c168.slots.size ≤ ((0 : Int32)).toNatClampNeg) := inb_of s168 ⟨by decide, by decide⟩
          have u168 : c168.slots[((0 : Int32)).toNatClampNeg]? = some (.long v90) := own_at (k := 0) t168 s168 hin168 (by decide) (rfl)
          refine own_go (fun _ k => X155.laload hx (j := (0 : Int32)) (v := (.long v90)) (by rw [e155]; exact R168.1) (State.isArrayOf_alike hZ.alike R168.2.1) R168.2.2 hin168 u168 (g := (mkF m 140 #[.val (.long q_1), .second, .val (.long q_2), .second, .val (.long q_3), .second, .val (.long q_4), .second, .val (.int p_5), .val (.long v90), .second, .val (.long v135), .second, .val (.ref b136), .val (.ref b144), .val (.int r156), .val (.long v157), .second, .val (.long v158), .second, .val (.int (0 : Int32))] [(.int (0 : Int32)), (.ref b136)])) rfl rfl (hb hby at_140) _ k) ?_
          show own_Go _ _ _ _ T155 (mkF m 141 #[.val (.long q_1), .second, .val (.long q_2), .second, .val (.long q_3), .second, .val (.long q_4), .second, .val (.int p_5), .val (.long v90), .second, .val (.long v135), .second, .val (.ref b136), .val (.ref b144), .val (.int r156), .val (.long v157), .second, .val (.long v158), .second, .val (.int (0 : Int32))] [(.long v90)])
          refine own_go (fun _ k => XS.lload X155.here hx rfl (hb hby at_141) rfl k) ?_
          show own_Go _ _ _ _ T155 (mkF m 143 #[.val (.long q_1), .second, .val (.long q_2), .second, .val (.long q_3), .second, .val (.long q_4), .second, .val (.int p_5), .val (.long v90), .second, .val (.long v135), .second, .val (.ref b136), .val (.ref b144), .val (.int r156), .val (.long v157), .second, .val (.long v158), .second, .val (.int (0 : Int32))] [(.long v90), (.long v90)])
          refine own_go (fun _ k => XS.lcmp X155.here hx rfl (hb hby at_143) rfl k) ?_
          show own_Go _ _ _ _ T155 (mkF m 144 #[.val (.long q_1), .second, .val (.long q_2), .second, .val (.long q_3), .second, .val (.long q_4), .second, .val (.int p_5), .val (.long v90), .second, .val (.long v135), .second, .val (.ref b136), .val (.ref b144), .val (.int r156), .val (.long v157), .second, .val (.long v158), .second, .val (.int (0 : Int32))] [(.int (lcmpW v90 v90))])
          have hc169 : v90 = v90 := rfl
          refine own_go (fun _ k => XS.ifNo X155.here hx rfl (hb hby at_144) rfl (Jvm.Free.XT.ll_ne_f hc169) k) ?_
          show own_Go _ _ _ _ T155 (mkF m 147 #[.val (.long q_1), .second, .val (.long q_2), .second, .val (.long q_3), .second, .val (.long q_4), .second, .val (.int p_5), .val (.long v90), .second, .val (.long v135), .second, .val (.ref b136), .val (.ref b144), .val (.int r156), .val (.long v157), .second, .val (.long v158), .second, .val (.int (0 : Int32))] [])
          refine own_go (fun _ k => XS.aload X155.here hx rfl (hb hby at_147) rfl rfl k) ?_
          show own_Go _ _ _ _ T155 (mkF m 149 #[.val (.long q_1), .second, .val (.long q_2), .second, .val (.long q_3), .second, .val (.long q_4), .second, .val (.int p_5), .val (.long v90), .second, .val (.long v135), .second, .val (.ref b136), .val (.ref b144), .val (.int r156), .val (.long v157), .second, .val (.long v158), .second, .val (.int (0 : Int32))] [(.ref b136)])
          refine own_go (fun _ k => XS.iconst X155.here hx rfl (hb hby at_149) k) ?_
          show own_Go _ _ _ _ T155 (mkF m 150 #[.val (.long q_1), .second, .val (.long q_2), .second, .val (.long q_3), .second, .val (.long q_4), .second, .val (.int p_5), .val (.long v90), .second, .val (.long v135), .second, .val (.ref b136), .val (.ref b144), .val (.int r156), .val (.long v157), .second, .val (.long v158), .second, .val (.int (0 : Int32))] [(.int (1 : Int32)), (.ref b136)])
          obtain ⟨q170, c170, R170, s170, t170⟩ := id f154
          have hin170 : ¬ ((1 : Int32) < 0 ∨ c170.slots.size ≤ ((1 : Int32)).toNatClampNeg) := inb_of s170 ⟨by decide, by decide⟩
          have u170 : c170.slots[((1 : Int32)).toNatClampNeg]? = some (.long v135) := own_at (k := 1) t170 s170 hin170 (by decide) (rfl)
          refine own_go (fun _ k => X155.laload hx (j := (1 : Int32)) (v := (.long v135)) (by rw [e155]; exact R170.1) (State.isArrayOf_alike hZ.alike R170.2.1) R170.2.2 hin170 u170 (g := (mkF m 150 #[.val (.long q_1), .second, .val (.long q_2), .second, .val (.long q_3), .second, .val (.long q_4), .second, .val (.int p_5), .val (.long v90), .second, .val (.long v135), .second, .val (.ref b136), .val (.ref b144), .val (.int r156), .val (.long v157), .second, .val (.long v158), .second, .val (.int (0 : Int32))] [(.int (1 : Int32)), (.ref b136)])) rfl rfl (hb hby at_150) _ k) ?_
          show own_Go _ _ _ _ T155 (mkF m 151 #[.val (.long q_1), .second, .val (.long q_2), .second, .val (.long q_3), .second, .val (.long q_4), .second, .val (.int p_5), .val (.long v90), .second, .val (.long v135), .second, .val (.ref b136), .val (.ref b144), .val (.int r156), .val (.long v157), .second, .val (.long v158), .second, .val (.int (0 : Int32))] [(.long v135)])
          refine own_go (fun _ k => XS.lload X155.here hx rfl (hb hby at_151) rfl k) ?_
          show own_Go _ _ _ _ T155 (mkF m 153 #[.val (.long q_1), .second, .val (.long q_2), .second, .val (.long q_3), .second, .val (.long q_4), .second, .val (.int p_5), .val (.long v90), .second, .val (.long v135), .second, .val (.ref b136), .val (.ref b144), .val (.int r156), .val (.long v157), .second, .val (.long v158), .second, .val (.int (0 : Int32))] [(.long v135), (.long v135)])
          refine own_go (fun _ k => XS.lcmp X155.here hx rfl (hb hby at_153) rfl k) ?_
          show own_Go _ _ _ _ T155 (mkF m 154 #[.val (.long q_1), .second, .val (.long q_2), .second, .val (.long q_3), .second, .val (.long q_4), .second, .val (.int p_5), .val (.long v90), .second, .val (.long v135), .second, .val (.ref b136), .val (.ref b144), .val (.int r156), .val (.long v157), .second, .val (.long v158), .second, .val (.int (0 : Int32))] [(.int (lcmpW v135 v135))])
          have hc171 : v135 = v135 := rfl
          refine own_go (fun _ k => XS.ifNo X155.here hx rfl (hb hby at_154) rfl (Jvm.Free.XT.ll_ne_f hc171) k) ?_
          show own_Go _ _ _ _ T155 (mkF m 157 #[.val (.long q_1), .second, .val (.long q_2), .second, .val (.long q_3), .second, .val (.long q_4), .second, .val (.int p_5), .val (.long v90), .second, .val (.long v135), .second, .val (.ref b136), .val (.ref b144), .val (.int r156), .val (.long v157), .second, .val (.long v158), .second, .val (.int (0 : Int32))] [])
          refine own_go (fun _ k => XS.iconst X155.here hx rfl (hb hby at_157) k) ?_
          show own_Go _ _ _ _ T155 (mkF m 158 #[.val (.long q_1), .second, .val (.long q_2), .second, .val (.long q_3), .second, .val (.long q_4), .second, .val (.int p_5), .val (.long v90), .second, .val (.long v135), .second, .val (.ref b136), .val (.ref b144), .val (.int r156), .val (.long v157), .second, .val (.long v158), .second, .val (.int (0 : Int32))] [(.int (1 : Int32))])
          refine own_go (fun _ k => XS.goto X155.here hx rfl (pc0 := 158) (pc' := 162) rfl (hb hby at_158) (by decide) (by decide) k) ?_
          show own_Go _ _ _ _ T155 (mkF m 162 #[.val (.long q_1), .second, .val (.long q_2), .second, .val (.long q_3), .second, .val (.long q_4), .second, .val (.int p_5), .val (.long v90), .second, .val (.long v135), .second, .val (.ref b136), .val (.ref b144), .val (.int r156), .val (.long v157), .second, .val (.long v158), .second, .val (.int (0 : Int32))] [(.int (1 : Int32))])
          obtain ⟨fs, hr, hrun, hended, hW, hsame⟩ := X155.leave (v := some (.int (1 : Int32))) (fun h => by rw [Bd.returns] at h; cases h)
          refine ⟨_, _, retOut X155 hx Bd.returns rfl (Or.inl ⟨rfl, Or.inr (Or.inl rfl), _, rfl⟩) (hb hby at_162) hr, hrun, hended, _, _, rfl, ?_, ⟨_, rfl⟩, hW, hsame.mono (by rw [y155]; decide) (by rw [z155]; decide)⟩
          show own_Q0 Z q_1 q_2 q_3 q_4 p_5 h0 n0 _ T155.heap _
          rw [e155]
          exact ⟨rfl, N155⟩
      · refine own_go (fun _ k => XS.ifYes X155.here hx rfl (pc0 := 106) (pc' := 127) rfl (hb hby at_106) rfl (Jvm.Free.XT.ll_ne_t hc159) (by decide) (by decide) k) ?_
        show own_Go _ _ _ _ T155 (mkF m 127 #[.val (.long q_1), .second, .val (.long q_2), .second, .val (.long q_3), .second, .val (.long q_4), .second, .val (.int p_5), .val (.long v90), .second, .val (.long v135), .second, .val (.ref b136), .val (.ref b144), .val (.int r156), .val (.long v157), .second, .val (.long v158), .second, .unset] [])
        refine own_go (fun _ k => XS.iconst X155.here hx rfl (hb hby at_127) k) ?_
        show own_Go _ _ _ _ T155 (mkF m 128 #[.val (.long q_1), .second, .val (.long q_2), .second, .val (.long q_3), .second, .val (.long q_4), .second, .val (.int p_5), .val (.long v90), .second, .val (.long v135), .second, .val (.ref b136), .val (.ref b144), .val (.int r156), .val (.long v157), .second, .val (.long v158), .second, .unset] [(.int (0 : Int32))])
        refine own_go (fun _ k => XS.istore X155.here hx rfl (hb hby at_128) rfl (l' := #[.val (.long q_1), .second, .val (.long q_2), .second, .val (.long q_3), .second, .val (.long q_4), .second, .val (.int p_5), .val (.long v90), .second, .val (.long v135), .second, .val (.ref b136), .val (.ref b144), .val (.int r156), .val (.long v157), .second, .val (.long v158), .second, .val (.int (0 : Int32))]) rfl k) ?_
        show own_Go _ _ _ _ T155 (mkF m 130 #[.val (.long q_1), .second, .val (.long q_2), .second, .val (.long q_3), .second, .val (.long q_4), .second, .val (.int p_5), .val (.long v90), .second, .val (.long v135), .second, .val (.ref b136), .val (.ref b144), .val (.int r156), .val (.long v157), .second, .val (.long v158), .second, .val (.int (0 : Int32))] [])
        refine own_go (fun _ k => XS.iload X155.here hx rfl (hb hby at_130) rfl k) ?_
        show own_Go _ _ _ _ T155 (mkF m 132 #[.val (.long q_1), .second, .val (.long q_2), .second, .val (.long q_3), .second, .val (.long q_4), .second, .val (.int p_5), .val (.long v90), .second, .val (.long v135), .second, .val (.ref b136), .val (.ref b144), .val (.int r156), .val (.long v157), .second, .val (.long v158), .second, .val (.int (0 : Int32))] [(.int r156)])
        refine own_go (fun _ k => XS.iload X155.here hx rfl (hb hby at_132) rfl k) ?_
        show own_Go _ _ _ _ T155 (mkF m 134 #[.val (.long q_1), .second, .val (.long q_2), .second, .val (.long q_3), .second, .val (.long q_4), .second, .val (.int p_5), .val (.long v90), .second, .val (.long v135), .second, .val (.ref b136), .val (.ref b144), .val (.int r156), .val (.long v157), .second, .val (.long v158), .second, .val (.int (0 : Int32))] [(.int (0 : Int32)), (.int r156)])
        have hc173 : r156 = (0 : Int32) := own_t0_11 q_1 q_2 q_3 q_4 v90 v135 r156 v157 v158 hdv90 hdv135 hr_r156 hdv157 hdv158 hc159
        refine own_go (fun _ k => XS.icmpNo X155.here hx rfl (hb hby at_134) rfl (Jvm.Free.XT.ii_ne_f hc173) k) ?_
        show own_Go _ _ _ _ T155 (mkF m 137 #[.val (.long q_1), .second, .val (.long q_2), .second, .val (.long q_3), .second, .val (.long q_4), .second, .val (.int p_5), .val (.long v90), .second, .val (.long v135), .second, .val (.ref b136), .val (.ref b144), .val (.int r156), .val (.long v157), .second, .val (.long v158), .second, .val (.int (0 : Int32))] [])
        refine own_go (fun _ k => XS.aload X155.here hx rfl (hb hby at_137) rfl rfl k) ?_
        show own_Go _ _ _ _ T155 (mkF m 139 #[.val (.long q_1), .second, .val (.long q_2), .second, .val (.long q_3), .second, .val (.long q_4), .second, .val (.int p_5), .val (.long v90), .second, .val (.long v135), .second, .val (.ref b136), .val (.ref b144), .val (.int r156), .val (.long v157), .second, .val (.long v158), .second, .val (.int (0 : Int32))] [(.ref b136)])
        refine own_go (fun _ k => XS.iconst X155.here hx rfl (hb hby at_139) k) ?_
        show own_Go _ _ _ _ T155 (mkF m 140 #[.val (.long q_1), .second, .val (.long q_2), .second, .val (.long q_3), .second, .val (.long q_4), .second, .val (.int p_5), .val (.long v90), .second, .val (.long v135), .second, .val (.ref b136), .val (.ref b144), .val (.int r156), .val (.long v157), .second, .val (.long v158), .second, .val (.int (0 : Int32))] [(.int (0 : Int32)), (.ref b136)])
        obtain ⟨q174, c174, R174, s174, t174⟩ := id f154
        have hin174 : ¬ ((0 : Int32) < 0 ∨ c174.slots.size ≤ ((0 : Int32)).toNatClampNeg) := inb_of s174 ⟨by decide, by decide⟩
        have u174 : c174.slots[((0 : Int32)).toNatClampNeg]? = some (.long v90) := own_at (k := 0) t174 s174 hin174 (by decide) (rfl)
        refine own_go (fun _ k => X155.laload hx (j := (0 : Int32)) (v := (.long v90)) (by rw [e155]; exact R174.1) (State.isArrayOf_alike hZ.alike R174.2.1) R174.2.2 hin174 u174 (g := (mkF m 140 #[.val (.long q_1), .second, .val (.long q_2), .second, .val (.long q_3), .second, .val (.long q_4), .second, .val (.int p_5), .val (.long v90), .second, .val (.long v135), .second, .val (.ref b136), .val (.ref b144), .val (.int r156), .val (.long v157), .second, .val (.long v158), .second, .val (.int (0 : Int32))] [(.int (0 : Int32)), (.ref b136)])) rfl rfl (hb hby at_140) _ k) ?_
        show own_Go _ _ _ _ T155 (mkF m 141 #[.val (.long q_1), .second, .val (.long q_2), .second, .val (.long q_3), .second, .val (.long q_4), .second, .val (.int p_5), .val (.long v90), .second, .val (.long v135), .second, .val (.ref b136), .val (.ref b144), .val (.int r156), .val (.long v157), .second, .val (.long v158), .second, .val (.int (0 : Int32))] [(.long v90)])
        refine own_go (fun _ k => XS.lload X155.here hx rfl (hb hby at_141) rfl k) ?_
        show own_Go _ _ _ _ T155 (mkF m 143 #[.val (.long q_1), .second, .val (.long q_2), .second, .val (.long q_3), .second, .val (.long q_4), .second, .val (.int p_5), .val (.long v90), .second, .val (.long v135), .second, .val (.ref b136), .val (.ref b144), .val (.int r156), .val (.long v157), .second, .val (.long v158), .second, .val (.int (0 : Int32))] [(.long v90), (.long v90)])
        refine own_go (fun _ k => XS.lcmp X155.here hx rfl (hb hby at_143) rfl k) ?_
        show own_Go _ _ _ _ T155 (mkF m 144 #[.val (.long q_1), .second, .val (.long q_2), .second, .val (.long q_3), .second, .val (.long q_4), .second, .val (.int p_5), .val (.long v90), .second, .val (.long v135), .second, .val (.ref b136), .val (.ref b144), .val (.int r156), .val (.long v157), .second, .val (.long v158), .second, .val (.int (0 : Int32))] [(.int (lcmpW v90 v90))])
        have hc175 : v90 = v90 := rfl
        refine own_go (fun _ k => XS.ifNo X155.here hx rfl (hb hby at_144) rfl (Jvm.Free.XT.ll_ne_f hc175) k) ?_
        show own_Go _ _ _ _ T155 (mkF m 147 #[.val (.long q_1), .second, .val (.long q_2), .second, .val (.long q_3), .second, .val (.long q_4), .second, .val (.int p_5), .val (.long v90), .second, .val (.long v135), .second, .val (.ref b136), .val (.ref b144), .val (.int r156), .val (.long v157), .second, .val (.long v158), .second, .val (.int (0 : Int32))] [])
        refine own_go (fun _ k => XS.aload X155.here hx rfl (hb hby at_147) rfl rfl k) ?_
        show own_Go _ _ _ _ T155 (mkF m 149 #[.val (.long q_1), .second, .val (.long q_2), .second, .val (.long q_3), .second, .val (.long q_4), .second, .val (.int p_5), .val (.long v90), .second, .val (.long v135), .second, .val (.ref b136), .val (.ref b144), .val (.int r156), .val (.long v157), .second, .val (.long v158), .second, .val (.int (0 : Int32))] [(.ref b136)])
        refine own_go (fun _ k => XS.iconst X155.here hx rfl (hb hby at_149) k) ?_
        show own_Go _ _ _ _ T155 (mkF m 150 #[.val (.long q_1), .second, .val (.long q_2), .second, .val (.long q_3), .second, .val (.long q_4), .second, .val (.int p_5), .val (.long v90), .second, .val (.long v135), .second, .val (.ref b136), .val (.ref b144), .val (.int r156), .val (.long v157), .second, .val (.long v158), .second, .val (.int (0 : Int32))] [(.int (1 : Int32)), (.ref b136)])
        obtain ⟨q176, c176, R176, s176, t176⟩ := id f154
        have hin176 : ¬ ((1 : Int32) < 0 ∨ c176.slots.size ≤ ((1 : Int32)).toNatClampNeg) := inb_of s176 ⟨by decide, by decide⟩
        have u176 : c176.slots[((1 : Int32)).toNatClampNeg]? = some (.long v135) := own_at (k := 1) t176 s176 hin176 (by decide) (rfl)
        refine own_go (fun _ k => X155.laload hx (j := (1 : Int32)) (v := (.long v135)) (by rw [e155]; exact R176.1) (State.isArrayOf_alike hZ.alike R176.2.1) R176.2.2 hin176 u176 (g := (mkF m 150 #[.val (.long q_1), .second, .val (.long q_2), .second, .val (.long q_3), .second, .val (.long q_4), .second, .val (.int p_5), .val (.long v90), .second, .val (.long v135), .second, .val (.ref b136), .val (.ref b144), .val (.int r156), .val (.long v157), .second, .val (.long v158), .second, .val (.int (0 : Int32))] [(.int (1 : Int32)), (.ref b136)])) rfl rfl (hb hby at_150) _ k) ?_
        show own_Go _ _ _ _ T155 (mkF m 151 #[.val (.long q_1), .second, .val (.long q_2), .second, .val (.long q_3), .second, .val (.long q_4), .second, .val (.int p_5), .val (.long v90), .second, .val (.long v135), .second, .val (.ref b136), .val (.ref b144), .val (.int r156), .val (.long v157), .second, .val (.long v158), .second, .val (.int (0 : Int32))] [(.long v135)])
        refine own_go (fun _ k => XS.lload X155.here hx rfl (hb hby at_151) rfl k) ?_
        show own_Go _ _ _ _ T155 (mkF m 153 #[.val (.long q_1), .second, .val (.long q_2), .second, .val (.long q_3), .second, .val (.long q_4), .second, .val (.int p_5), .val (.long v90), .second, .val (.long v135), .second, .val (.ref b136), .val (.ref b144), .val (.int r156), .val (.long v157), .second, .val (.long v158), .second, .val (.int (0 : Int32))] [(.long v135), (.long v135)])
        refine own_go (fun _ k => XS.lcmp X155.here hx rfl (hb hby at_153) rfl k) ?_
        show own_Go _ _ _ _ T155 (mkF m 154 #[.val (.long q_1), .second, .val (.long q_2), .second, .val (.long q_3), .second, .val (.long q_4), .second, .val (.int p_5), .val (.long v90), .second, .val (.long v135), .second, .val (.ref b136), .val (.ref b144), .val (.int r156), .val (.long v157), .second, .val (.long v158), .second, .val (.int (0 : Int32))] [(.int (lcmpW v135 v135))])
        have hc177 : v135 = v135 := rfl
        refine own_go (fun _ k => XS.ifNo X155.here hx rfl (hb hby at_154) rfl (Jvm.Free.XT.ll_ne_f hc177) k) ?_
        show own_Go _ _ _ _ T155 (mkF m 157 #[.val (.long q_1), .second, .val (.long q_2), .second, .val (.long q_3), .second, .val (.long q_4), .second, .val (.int p_5), .val (.long v90), .second, .val (.long v135), .second, .val (.ref b136), .val (.ref b144), .val (.int r156), .val (.long v157), .second, .val (.long v158), .second, .val (.int (0 : Int32))] [])
        refine own_go (fun _ k => XS.iconst X155.here hx rfl (hb hby at_157) k) ?_
        show own_Go _ _ _ _ T155 (mkF m 158 #[.val (.long q_1), .second, .val (.long q_2), .second, .val (.long q_3), .second, .val (.long q_4), .second, .val (.int p_5), .val (.long v90), .second, .val (.long v135), .second, .val (.ref b136), .val (.ref b144), .val (.int r156), .val (.long v157), .second, .val (.long v158), .second, .val (.int (0 : Int32))] [(.int (1 : Int32))])
        refine own_go (fun _ k => XS.goto X155.here hx rfl (pc0 := 158) (pc' := 162) rfl (hb hby at_158) (by decide) (by decide) k) ?_
        show own_Go _ _ _ _ T155 (mkF m 162 #[.val (.long q_1), .second, .val (.long q_2), .second, .val (.long q_3), .second, .val (.long q_4), .second, .val (.int p_5), .val (.long v90), .second, .val (.long v135), .second, .val (.ref b136), .val (.ref b144), .val (.int r156), .val (.long v157), .second, .val (.long v158), .second, .val (.int (0 : Int32))] [(.int (1 : Int32))])
        obtain ⟨fs, hr, hrun, hended, hW, hsame⟩ := X155.leave (v := some (.int (1 : Int32))) (fun h => by rw [Bd.returns] at h; cases h)
        refine ⟨_, _, retOut X155 hx Bd.returns rfl (Or.inl ⟨rfl, Or.inr (Or.inl rfl), _, rfl⟩) (hb hby at_162) hr, hrun, hended, _, _, rfl, ?_, ⟨_, rfl⟩, hW, hsame.mono (by rw [y155]; decide) (by rw [z155]; decide)⟩
        show own_Q0 Z q_1 q_2 q_3 q_4 p_5 h0 n0 _ T155.heap _
        rw [e155]
        exact ⟨rfl, N155⟩
set_option maxRecDepth 65536 in
set_option maxHeartbeats 40000000 in
theorem comes_1 {Post : Tables → Env → Array Value → State → Outcome → State → Prop} (hpost : ∀ tb e args s v u, (limb_1_1.after args s (.returned v) u = true ∧ limb_1_2.after args s (.returned v) u = true ∧ True) → FrameEnd s (.returned v) u (Jvm.fieldLocs frame_1_writes args s ++ Jvm.arrayLocs frame_1_arrays args s ++ Jvm.staticLocs frame_1_statics s) 16 128 → Post tb e args s (.returned v) u) :
    ArmFor flags0 classFile x code maxLocals ret World_1 tables_1 room_1 Calls_1 rest_1 Pre_1 Post := by
  intro l hfl _ _ p e ha hc hk s m args below hf hA hF happ hP
  obtain ⟨hcalls, hrest, hpre⟩ := hP
  obtain ⟨-, -, -, hnamed, -, -, -, hat⟩ := (Spec.applies_iff hf).mp happ
  obtain ⟨hg, hn⟩ := and_e (Cond.before_iff.mp (show (Jvm.Cond.and given_1 narrow_1).before args s = true from hpre))
  obtain ⟨g1, g2⟩ := and_e hg
  obtain ⟨g3, g4⟩ := and_e g2
  obtain ⟨g5, g6⟩ := and_e g4
  obtain ⟨g7, g8⟩ := and_e g6
  obtain ⟨g9, g10⟩ := and_e g8
  obtain ⟨w0, w1, w2, w3, w4, rfl⟩ : ∃ w0 w1 w2 w3 w4 : Value, args = #[w0, w1, w2, w3, w4] := by
    have hs : args.size = 5 := by simpa [Cond.value, given_1] using g1
    obtain ⟨L⟩ := args
    match L, hs with
    | [w0, w1, w2, w3, w4], _ => exact ⟨w0, w1, w2, w3, w4, rfl⟩
  have hw := fun d (hd : d ∈ tables_1) => atoms_spec (ws := Jvm.Cond.code x code maxLocals ret :: tables_1) hat d (List.mem_cons_of_mem _ hd)
  have hfit : Fit s := fun {y c} hc i hi => by
    obtain ⟨ha, rfl⟩ := Array.getElem?_eq_some_iff.mp hc
    have q := List.all_eq_true.mp ((Array.all_eq_true_iff_forall_mem.mp hF) _ (Array.getElem_mem ha)) i (List.mem_range.mpr hi)
    simpa [Array.getElem?_eq_getElem hi] using q
  obtain ⟨i0, ei0⟩ := isL_v g3
  obtain rfl : w0 = (.long i0) := Option.some.inj ei0
  obtain ⟨i1, ei1⟩ := isL_v g5
  obtain rfl : w1 = (.long i1) := Option.some.inj ei1
  obtain ⟨i2, ei2⟩ := isL_v g7
  obtain rfl : w2 = (.long i2) := Option.some.inj ei2
  obtain ⟨i3, ei3⟩ := isL_v g9
  obtain rfl : w3 = (.long i3) := Option.some.inj ei3
  obtain ⟨i4, ei4⟩ := is_v g10
  obtain rfl : w4 = (.int i4) := Option.some.inj ei4
  obtain ⟨n, o, h1, h2, h3, _, L, rfl, ⟨rfl, N⟩, hq⟩ := own_rm0 l s _ hw tables_1 i0 i1 i2 i3 i4  s.heap s.heap.size (Nat.le_refl _)  p e ha hc hk s m _ below hf ((Spec.applies_iff_loose hf).mp happ).1 ⟨rfl, State.Warmed39.refl s, rfl⟩ trivial
  refine ⟨n, _, h1, h2, h3, hpost _ _ _ _ _ _ ⟨Cond.after_iff.mpr rfl, Cond.after_iff.mpr (eq_i res_at (Term.int_eval (1)) rfl), trivial⟩ ⟨hq.1, hq.2.1, (hq.2.2.sift fun y hy => Or.inr (N y hy)).mono (by decide) (by decide)⟩⟩
theorem main_1_1 : Claimed_1_1 := comes_1 fun _ _ _ _ _ _ h hF => ⟨h.1, hF⟩
theorem main_1_2 : Claimed_1_2 := comes_1 fun _ _ _ _ _ _ h hF => ⟨h.2.1, hF⟩
end Jvm.Pilot.@@N@@
namespace Jvm.Pilot.@@N@@
open Jvm Jvm.ClassFile Sem Op Lib Jvm.Free Jvm.Stand Jvm.Pilot.@@N@@.Jvm.D
/-! MADE BY PROGRAM (witnessworld.py) out of the Statement's table words and the real class files: 12 classes; the members and pool entries that the words name. The judged class is class 1, her method 1. -/
namespace start1
open Jvm.ClassFile
def u (s : String) : CpInfo := .utf8 (stringToUtf16 s)
/-- a pool by its gaps: so many unusable entries, then the entry; so many at the end -/
def gap : Nat → List CpInfo → List CpInfo
  | 0, r => r
  | n + 1, r => .unusable :: gap n r
def poolList (es : List (Nat × CpInfo)) (last : Nat) : List CpInfo := es.foldr (fun e r => gap e.1 (e.2 :: r)) (gap last [])
def pool (es : List (Nat × CpInfo)) (last : Nat) : Array CpInfo := ⟨poolList es last⟩
def fileOf (pool : Array CpInfo) (this : Nat) (attrs : Array Attribute := #[]) (ms : Array MethodInfo := #[]) (fl : Nat := 33) (sup : Nat := 0) (ifs : Array Nat := #[]) (fds : Array FieldInfo := #[]) : ClassFile where
  minorVersion := 0
  majorVersion := 65
  constantPool := pool
  accessFlags := fl
  thisClass := this
  superClass := sup
  interfaces := ifs
  fields := fds
  methods := ms
  attributes := attrs
def plain (name : String) (sup : Option ClassId) : Class where
  name := name
  kind := .ordinary
  loader := none
  accessFlags := 33
  super := sup
  interfaces := #[]
  cf := none
  fields := #[]
  methods := #[]
  instanceTypes := #[]
  staticTypes := #[]
  resolved := #[]
  callSites := []
  init := .initialized
  statics := none
  mirror := none

def pool0 : Array CpInfo := pool [(5, u "<init>"), (0, u "()V"), (1, .class_ 10), (1, u "java/lang/Object")] 113

def k0c0 : Code := { maxStack := 0, maxLocals := 1, code := object_method_1_code, exceptionTable := #[], attributes := #[] }
def k0m0 : Method := { name := "<init>", desc := "()V", sig := { parameters := [], returnType := none }, accessFlags := 1, code := some k0c0 }
/-- java/lang/Object -/
def k0 : Class := { plain "java/lang/Object" none with
  accessFlags := 33
  interfaces := #[]
  cf := some (fileOf pool0 8 #[] #[{ accessFlags := 1, nameIndex := 5, descriptorIndex := 6, attributes := #[] }] 33 0 #[] #[])
  fields := #[]
  methods := #[k0m0]
  instanceTypes := #[]
  staticTypes := #[]
  resolved := Array.replicate 124 none
  statics := none }

def pool1 : Array CpInfo := pool [(2, .class_ 4), (1, u "java/lang/Object"), (0, u "<init>"), (0, u "()V"), (0, .long 18446744073709551615), (1, .class_ 10), (0, u "com/example/epsilonet/epsilonet/service/ObservationTree$Outcome"), (0, .methodref 9 12), (0, .nameAndType 5 13), (0, u "(JJ)V"), (0, .methodref 9 15), (0, .nameAndType 16 17), (0, u "makesHold"), (0, u "([J)Z"), (0, .class_ 19), (0, u "com/example/epsilonet/epsilonet/service/OutcomeMakesHoldPinLaw"), (2, u "law"), (0, u "(JJJJI)Z")] 9

def k1m0 : Method := { name := "<init>", desc := "()V", sig := { parameters := [], returnType := none }, accessFlags := 2, code := none }
def k1c1 : Code := { maxStack := 6, maxLocals := 21, code := code, exceptionTable := #[], attributes := #[] }
def k1m1 : Method := { name := "law", desc := "(JJJJI)Z", sig := { parameters := [.long, .long, .long, .long, .int], returnType := some .boolean }, accessFlags := 9, code := some k1c1 }
/-- com/example/epsilonet/epsilonet/service/OutcomeMakesHoldPinLaw -/
def k1 : Class := { plain "com/example/epsilonet/epsilonet/service/OutcomeMakesHoldPinLaw" (some 0) with
  accessFlags := 49
  interfaces := #[]
  cf := some (fileOf pool1 18 #[] #[{ accessFlags := 2, nameIndex := 5, descriptorIndex := 6, attributes := #[] }, { accessFlags := 9, nameIndex := 22, descriptorIndex := 23, attributes := #[] }] 49 2 #[] #[])
  fields := #[]
  methods := #[k1m0, k1m1]
  instanceTypes := #[]
  staticTypes := #[]
  resolved := Array.replicate 33 none
  statics := none }

def pool2 : Array CpInfo := pool [(1, .methodref 2 3), (0, .class_ 4), (0, .nameAndType 5 6), (0, u "java/lang/Object"), (0, u "<init>"), (0, u "()V"), (0, .class_ 8), (0, u "java/lang/Record")] 13

def k2c0 : Code := { maxStack := 1, maxLocals := 1, code := jdk_30_method_1_code, exceptionTable := #[], attributes := #[] }
def k2m0 : Method := { name := "<init>", desc := "()V", sig := { parameters := [], returnType := none }, accessFlags := 4, code := some k2c0 }
/-- java/lang/Record -/
def k2 : Class := { plain "java/lang/Record" (some 0) with
  accessFlags := 1057
  interfaces := #[]
  cf := some (fileOf pool2 7 #[] #[{ accessFlags := 4, nameIndex := 5, descriptorIndex := 6, attributes := #[] }] 1057 2 #[] #[])
  fields := #[]
  methods := #[k2m0]
  instanceTypes := #[]
  staticTypes := #[]
  resolved := Array.replicate 22 none
  statics := none }

def pool3 : Array CpInfo := pool [(1, .methodref 2 3), (0, .class_ 4), (0, .nameAndType 5 6), (0, u "java/lang/Record"), (0, u "<init>"), (0, u "()V"), (0, .fieldref 8 9), (0, .class_ 10), (0, .nameAndType 11 12), (0, u "com/example/epsilonet/epsilonet/service/ObservationTree$Outcome"), (0, u "observed"), (0, u "J"), (0, .fieldref 8 14), (0, .nameAndType 15 12), (0, u "values"), (0, .long 18446744073709551615), (11, u "(JJ)V"), (3, u "makesHold"), (0, u "([J)Z"), (9, .class_ 44), (0, u "com/example/epsilonet/epsilonet/service/ObservationTree")] 20

def k3c0 : Code := { maxStack := 3, maxLocals := 5, code := prog_38_method_1_code, exceptionTable := #[], attributes := #[] }
def k3m0 : Method := { name := "<init>", desc := "(JJ)V", sig := { parameters := [.long, .long], returnType := none }, accessFlags := 0, code := some k3c0 }
def k3c1 : Code := { maxStack := 6, maxLocals := 2, code := prog_38_method_2_code, exceptionTable := #[], attributes := #[] }
def k3m1 : Method := { name := "makesHold", desc := "([J)Z", sig := { parameters := [(.array .long)], returnType := some .boolean }, accessFlags := 0, code := some k3c1 }
/-- com/example/epsilonet/epsilonet/service/ObservationTree$Outcome -/
def k3 : Class := { plain "com/example/epsilonet/epsilonet/service/ObservationTree$Outcome" (some 2) with
  accessFlags := 48
  interfaces := #[]
  cf := some (fileOf pool3 8 #[.nestHost 43] #[{ accessFlags := 0, nameIndex := 5, descriptorIndex := 28, attributes := #[] }, { accessFlags := 0, nameIndex := 32, descriptorIndex := 33, attributes := #[] }] 48 2 #[] #[{ accessFlags := 18, nameIndex := 11, descriptorIndex := 12, attributes := #[] }, { accessFlags := 18, nameIndex := 15, descriptorIndex := 12, attributes := #[] }])
  fields := #[{ name := "observed", type := .long, accessFlags := 18, slot := 0, constantValue := 0 }, { name := "values", type := .long, accessFlags := 18, slot := 1, constantValue := 0 }]
  methods := #[k3m0, k3m1]
  instanceTypes := #[.long, .long]
  staticTypes := #[]
  resolved := Array.replicate 65 none
  statics := none }

def pool4 : Array CpInfo := pool [(1, u "java/lang/Cloneable"), (0, .class_ 1), (0, u "java/lang/Object"), (0, .class_ 3)] 3

/-- java/lang/Cloneable -/
def k4 : Class := { plain "java/lang/Cloneable" (some 0) with
  accessFlags := 1537
  interfaces := #[]
  cf := some (fileOf pool4 2 #[] #[] 1537 4 #[] #[])
  fields := #[]
  methods := #[]
  instanceTypes := #[]
  staticTypes := #[]
  resolved := Array.replicate 8 none
  statics := none }

def pool5 : Array CpInfo := pool [(1, u "java/io/Serializable"), (0, .class_ 1), (0, u "java/lang/Object"), (0, .class_ 3)] 3

/-- java/io/Serializable -/
def k5 : Class := { plain "java/io/Serializable" (some 0) with
  accessFlags := 1537
  interfaces := #[]
  cf := some (fileOf pool5 2 #[] #[] 1537 4 #[] #[])
  fields := #[]
  methods := #[]
  instanceTypes := #[]
  staticTypes := #[]
  resolved := Array.replicate 8 none
  statics := none }

/-- the primitive byte -/
def k6 : Class := { plain "byte" none with kind := .primitive 'B', accessFlags := 0x411 }
/-- [B -/
def k7 : Class := { plain "[B" (some 0) with kind := .array 6 .byte, interfaces := #[4, 5], accessFlags := 1041 }

/-- the primitive int -/
def k8 : Class := { plain "int" none with kind := .primitive 'I', accessFlags := 0x411 }
/-- [I -/
def k9 : Class := { plain "[I" (some 0) with kind := .array 8 .int, interfaces := #[4, 5], accessFlags := 1041 }

/-- the primitive long -/
def k10 : Class := { plain "long" none with kind := .primitive 'J', accessFlags := 0x411 }
/-- [J -/
def k11 : Class := { plain "[J" (some 0) with kind := .array 10 .long, interfaces := #[4, 5], accessFlags := 1041 }

def heap : Heap := #[]
def classes : Array Class := #[k0, k1, k2, k3, k4, k5, k6, k7, k8, k9, k10, k11]
def interned : List (Array UInt16 × Addr) := []
def slotsUsed : Nat := 0
def theMethod : MethodId := ⟨1, 1⟩
def args0 : Array Value := #[.long 1, .long 2, .long 3, .long 4, .int 5]
def aboutOver (below : List Frame) : State where
  vm := { classes := classes, interned := interned.toArray }
  heap := heap
  slotsUsed := slotsUsed
  threads := #[{ frames := .invoking theMethod args0 :: below }]
def below0 : List Frame := [.native { method := ⟨0, 0⟩, args := #[] }]
def about1 : State := aboutOver below0
def p0 : Program := .bare "" "" ""
def e0 : Env := launch0.env 0 0 0
theorem w_frames : about1.frames = Frame.invoking theMethod args0 :: below0 := rfl
set_option maxRecDepth 65536 in
theorem w_args : argsFit about1.vm theMethod args0 = true := by decide +kernel
set_option maxRecDepth 65536 in
theorem w_heap : heapFits about1 = true := by decide +kernel
set_option maxRecDepth 65536 in
theorem w_runnable : about1.curStatus? = some .runnable := by decide +kernel
set_option maxRecDepth 65536 in
theorem w_alone : about1.alone = true := by decide +kernel
set_option maxRecDepth 65536 in
theorem w_named : about1.methodNamed? x = some theMethod := by decide +kernel
set_option maxRecDepth 65536 in
theorem w_hears : about1.hears theMethod below0 = true := by decide +kernel
set_option maxRecDepth 65536 in
theorem w_ripe : about1.ripe theMethod args0 below0 = true := by decide +kernel
theorem w_running : about1.status = .running := rfl
set_option maxRecDepth 65536 in
theorem w_room : about1.hasRoom e0.platform room_1 = true :=
  launch0.hasRoom_least _ room_1 (by decide +kernel) (by decide +kernel) (by decide +kernel) (by decide +kernel) (by decide +kernel) (by decide +kernel)
theorem allAtoms_all (ts : List Jvm.Cond) (a : Array Jvm.Value) (st : Jvm.State) : (allAtoms ts).before a st = ts.all (fun c => c.before a st) := by
  induction ts with
  | nil => rfl
  | cons c t ih =>
    show (Jvm.Cond.and c (allAtoms t)).before a st = _
    rw [Jvm.Cond.before_and, ih, List.all_cons]
def words1 : List Jvm.Cond := Jvm.Cond.code x code maxLocals ret :: tables_1
/-- a 'code' word, met by the world's own term for the bytes: nothing is compared byte by byte -/
theorem code_word {y : MethodName} {bytes : ByteArray} {mx : Nat} {rt : Option FieldType} {a : Array Value} {s : State} {m : MethodId} {meth : Method} {c : Code} (h1 : s.methodNamed? y = some m) (h2 : s.vm.method? m = some meth) (h3 : meth.code = some c) (h4 : c.code = bytes)
    (h5 : (c.maxLocals == mx && c.exceptionTable.isEmpty && decide (c.maxStack ≤ mostOperands) && decide (meth.sig.returnType = rt) && !meth.locks && decide (parseMethodDescriptor y.desc = some meth.sig)) = true) : (Jvm.Cond.code y bytes mx rt).before a s = true := by
  simp only [Bool.and_eq_true, beq_iff_eq, Bool.not_eq_true', decide_eq_true_eq] at h5
  obtain ⟨⟨⟨⟨⟨g1, g2⟩, g3⟩, g4⟩, g5⟩, g6⟩ := h5
  simp [Cond.before, Cond.holds, Cond.value, h1, h2, h3, h4, g1, g2, g3, g4, g5, g6]
def isCode : Jvm.Cond → Bool
  | .code _ _ _ _ => true
  | _ => false
theorem all_split {L : List Jvm.Cond} {P : Jvm.Cond → Bool} (h1 : L.all (fun c => isCode c || P c) = true) (h2 : ∀ c ∈ L.filter isCode, P c = true) : L.all P = true := by
  refine List.all_eq_true.mpr fun c hc => ?_
  have h := List.all_eq_true.mp h1 c hc
  rcases Bool.eq_false_or_eq_true (isCode c) with hi | hi
  · exact h2 c (List.mem_filter.mpr ⟨hc, hi⟩)
  · simpa [hi] using h
set_option maxRecDepth 65536 in
theorem w_c0 : (Jvm.Cond.code x code maxLocals ret).before args0 about1 = true := code_word (m := ⟨1, 1⟩) (meth := k1m1) (c := k1c1) (by decide +kernel) rfl rfl rfl (by decide +kernel)
set_option maxRecDepth 65536 in
theorem w_c1 : (Jvm.Cond.code ({ cls := "com/example/epsilonet/epsilonet/service/ObservationTree$Outcome", name := "<init>", desc := "(JJ)V" } : Jvm.MethodName) prog_38_method_1_code (5 : Nat) (Option.none : Option Jvm.ClassFile.FieldType)).before args0 about1 = true := code_word (m := ⟨3, 0⟩) (meth := k3m0) (c := k3c0) (by decide +kernel) rfl rfl rfl (by decide +kernel)
set_option maxRecDepth 65536 in
theorem w_c2 : (Jvm.Cond.code ({ cls := "java/lang/Record", name := "<init>", desc := "()V" } : Jvm.MethodName) jdk_30_method_1_code (1 : Nat) (Option.none : Option Jvm.ClassFile.FieldType)).before args0 about1 = true := code_word (m := ⟨2, 0⟩) (meth := k2m0) (c := k2c0) (by decide +kernel) rfl rfl rfl (by decide +kernel)
set_option maxRecDepth 65536 in
theorem w_c3 : (Jvm.Cond.code ({ cls := "java/lang/Object", name := "<init>", desc := "()V" } : Jvm.MethodName) object_method_1_code (1 : Nat) (Option.none : Option Jvm.ClassFile.FieldType)).before args0 about1 = true := code_word (m := ⟨0, 0⟩) (meth := k0m0) (c := k0c0) (by decide +kernel) rfl rfl rfl (by decide +kernel)
set_option maxRecDepth 65536 in
theorem w_c4 : (Jvm.Cond.code ({ cls := "com/example/epsilonet/epsilonet/service/ObservationTree$Outcome", name := "makesHold", desc := "([J)Z" } : Jvm.MethodName) prog_38_method_2_code (2 : Nat) (Option.some Jvm.ClassFile.FieldType.boolean)).before args0 about1 = true := code_word (m := ⟨3, 1⟩) (meth := k3m1) (c := k3c1) (by decide +kernel) rfl rfl rfl (by decide +kernel)
def codes1 : List Jvm.Cond := [Jvm.Cond.code x code maxLocals ret, Jvm.Cond.code ({ cls := "com/example/epsilonet/epsilonet/service/ObservationTree$Outcome", name := "<init>", desc := "(JJ)V" } : Jvm.MethodName) prog_38_method_1_code (5 : Nat) (Option.none : Option Jvm.ClassFile.FieldType), Jvm.Cond.code ({ cls := "java/lang/Record", name := "<init>", desc := "()V" } : Jvm.MethodName) jdk_30_method_1_code (1 : Nat) (Option.none : Option Jvm.ClassFile.FieldType), Jvm.Cond.code ({ cls := "java/lang/Object", name := "<init>", desc := "()V" } : Jvm.MethodName) object_method_1_code (1 : Nat) (Option.none : Option Jvm.ClassFile.FieldType), Jvm.Cond.code ({ cls := "com/example/epsilonet/epsilonet/service/ObservationTree$Outcome", name := "makesHold", desc := "([J)Z" } : Jvm.MethodName) prog_38_method_2_code (2 : Nat) (Option.some Jvm.ClassFile.FieldType.boolean)]
set_option maxRecDepth 65536 in
theorem codes_eq : words1.filter isCode = codes1 := rfl
theorem w_codes : ∀ c ∈ words1.filter isCode, c.before args0 about1 = true := by
  rw [codes_eq]
  intro c hc
  simp only [codes1, List.mem_cons, List.not_mem_nil, or_false] at hc
  rcases hc with rfl | rfl | rfl | rfl | rfl
  · exact w_c0
  · exact w_c1
  · exact w_c2
  · exact w_c3
  · exact w_c4
set_option maxRecDepth 65536 in
theorem w_t1 : (words1.take 24).all (fun c => isCode c || c.before args0 about1) = true := by decide +kernel
set_option maxRecDepth 65536 in
theorem w_t2 : (words1.drop 24).all (fun c => isCode c || c.before args0 about1) = true := by decide +kernel
theorem w_tables : (allAtoms (Jvm.Cond.code x code maxLocals ret :: tables_1)).before args0 about1 = true := by
  rw [allAtoms_all]
  show words1.all (fun c => c.before args0 about1) = true
  refine all_split ?_ w_codes
  rw [← List.take_append_drop 24 words1, List.all_append, w_t1, w_t2]
  rfl
set_option maxRecDepth 65536 in
theorem w_case : (Jvm.Cond.and given_1 narrow_1).before args0 about1 = true := by decide +kernel
theorem w_applies : (headSpec (Jvm.Cond.code x code maxLocals ret :: tables_1) room_1).applies x e0.platform about1 = true :=
  (Spec.applies_iff w_frames).mpr ⟨w_running, w_runnable, w_alone, w_named, w_hears, w_ripe, w_room, w_tables⟩
theorem atStart : AtStart classFile x code maxLocals ret World_1 tables_1 room_1 Calls_1 rest_1 Pre_1 launch0 p0 e0 about1 theMethod args0 below0 :=
  ⟨lists_1, trivial, launch0.admits_env _ _ _, launch0.least_env, fairChoices_fair.cas, fairChoices_fair.clock, w_frames, w_args, w_heap, w_applies, trivial, trivial, w_case⟩
end start1
theorem witness_1 : WitnessClaimed_1 := ⟨start1.p0, start1.e0, start1.about1, start1.theMethod, start1.args0, start1.below0, start1.atStart⟩
end Jvm.Pilot.@@N@@
