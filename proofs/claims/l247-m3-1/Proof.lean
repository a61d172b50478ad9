import JvmDerived
import JvmDerived.Pilot.@@N@@Statement
import JvmDerived.Pilot.@@N@@Code
set_option linter.unusedVariables false
set_option linter.unusedSimpArgs false
namespace Jvm.Pilot.@@N@@
open Jvm Jvm.ClassFile Sem Op Lib Jvm.Free Jvm.Stand Jvm.LawKit Jvm.RoadKit Bundle Jvm.Pilot.@@N@@.Jvm.D
def own_Go (tb : Tables) (e : Env) (below : List Frame) (P : State → Outcome → Prop) (T : State) (g : JFrame) : Prop := ∃ t o, Steps tb e below (T.setTop g) t ∧ P t o
theorem own_go {tb : Tables} {e : Env} {below : List Frame} {P : State → Outcome → Prop} {T T' : State} {g g' : JFrame} (k : ∀ target, Steps tb e below (T'.setTop g') target → Steps tb e below (T.setTop g) target) (h : own_Go tb e below P T' g') : own_Go tb e below P T g := by
  obtain ⟨t, o, a, b⟩ := h
  exact ⟨t, o, k t a, b⟩
theorem own_cast {P Q : Prop} (h : P = Q) (p : P) : Q := h ▸ p
def own_upd (f : Nat → Value) (k : Nat) (v : Value) : Nat → Value := fun i => if i = k then v else f i
/-- an array of length z at a, its element i being f i -/
def own_AV (Z : State) (h : Heap) (a : Addr) (ty : FieldType) (z : Int32) (f : Nat → Value) : Prop := ¬ z < 0 ∧ ∃ c : Cell, Arr Z h a c ty ∧ c.slots.size = z.toNatClampNeg ∧ ∀ i, i < c.slots.size → c.slots[i]? = some (f i)
section
variable {Z : State} {h h' : Heap} {a b : Addr} {ty : FieldType} {z j : Int32} {f : Nat → Value} {v w : Value} {sl k : Nat} {ws : List Addr} {cA : ClassId}
theorem own_AV.lt (F : own_AV Z h a ty z f) : a < h.size := by obtain ⟨_, c, A, -⟩ := F; exact A.lt
theorem own_AV.ext (F : own_AV Z h a ty z f) (E : Ext h h') : own_AV Z h' a ty z f := by obtain ⟨q, c, A, r⟩ := F; exact ⟨q, c, A.ext E, r⟩
theorem own_AV.other (F : own_AV Z h b ty z f) (W : Wr h h' a sl v) (q : b ≠ a) : own_AV Z h' b ty z f := by obtain ⟨q1, c, A, r⟩ := F; exact ⟨q1, c, A.other W q, r⟩
theorem own_AV.keep (F : own_AV Z h a ty z f) (K : Keep h h' ws) (q : a ∉ ws) : own_AV Z h' a ty z f := by obtain ⟨q1, c, A, r⟩ := F; exact ⟨q1, c, ⟨K.2.1 a c A.1 q, A.2⟩, r⟩
theorem own_AV.new (A : Arr Z h a (newA cA ty z) ty) (q : ¬ z < 0) : own_AV Z h a ty z (fun _ => defaultValue ty) :=
  ⟨q, _, A, sz_new _ _ _, fun i hi => by
    rw [sz_new] at hi
    simp [newA, hi]⟩
theorem own_AV.set (F : own_AV Z h a ty z f) (W : Wr h h' a j.toNatClampNeg v) (hk : j.toNatClampNeg = k) : own_AV Z h' a ty z (own_upd f k v) := by
  obtain ⟨q, c, A, s, t⟩ := F
  subst hk
  refine ⟨q, _, A.same W, by rw [sz_set]; exact s, fun i hi => ?_⟩
  rw [sz_set] at hi
  by_cases e : i = j.toNatClampNeg
  · subst e; simp [own_upd, Cell.setSlot, hi]
  · simp only [own_upd, if_neg e, Cell.setSlot]
    rw [Array.getElem?_setIfInBounds_ne (Ne.symm e)]; exact t i hi
theorem own_at {c : Cell} (t : ∀ i, i < c.slots.size → c.slots[i]? = some (f i)) (s : c.slots.size = z.toNatClampNeg) (hin : ¬ (j < 0 ∨ c.slots.size ≤ j.toNatClampNeg)) (hk : j.toNatClampNeg = k) (hv : f k = v) : c.slots[j.toNatClampNeg]? = some v := by
  rw [t _ (Nat.lt_of_not_le fun q => hin (Or.inr q)), hk, hv]
theorem own_sta_keep {C n d : String} (F : Sta Z h C n d w) (K : Keep h h' ws) (q : ∀ x ∈ ws, ∀ c : Cell, h[x]? = some c → c.vm.isStatics = false) : Sta Z h' C n d w := by
  obtain ⟨cf, i, k, f, st, cell, h1, h2, h3, h4, h5, h6, h7⟩ := F
  exact ⟨cf, i, k, f, st, cell, h1, h2, h3, h4, K.2.1 st cell h5 (fun m => by rw [q st m cell h5] at h6; cases h6), h6, h7⟩
theorem own_exa_plain {C : String} (F : Exa Z h a C) : ∀ c : Cell, h[a]? = some c → c.vm.isStatics = false := fun c hc => by
  obtain ⟨c1, k, h1, -, -, h4, -⟩ := F; cases h1.symm.trans hc; exact h4
theorem own_AV.plain (F : own_AV Z h a ty z f) : ∀ c : Cell, h[a]? = some c → c.vm.isStatics = false := fun c hc => by
  obtain ⟨_, c1, A, -⟩ := F; cases A.1.symm.trans hc; exact A.plain
end
theorem own_narb {x : Int32} (h : x = 0 ∨ x = 1) : nar .boolean x = x := by rcases h with rfl | rfl <;> rfl
theorem own_exa_ref {args : Array Value} {s : State} {t : Term} {C : String} (hx : (Jvm.Cond.exactly t C).value args s none s [] = some true) : ∃ a, t.eval args s none [] s = some (.ref a) ∧ Exa s s.heap a C := by
  obtain ⟨a', c', cell, k, e1, -⟩ := Cond.exactly_spec (Cond.before_iff.mpr hx)
  exact ⟨a', e1, Exa.start e1 hx⟩
theorem own_eq_int {args : Array Value} {s : State} {t : Term} {k : Int32} (h : (Jvm.Cond.eq t (Jvm.Term.int k)).value args s none s [] = some true) : t.eval args s none [] s = some (.int k) := by
  cases hv : t.eval args s none [] s with
  | none => simp [Cond.value, hv] at h
  | some v => cases v <;> simp [Cond.value, hv, Term.eval] at h <;> simp [h]
theorem own_fld_int {args : Array Value} {s : State} {t : Term} {C n d : String} {a : Addr} {k : Int32} (ev : t.eval args s none [] s = some (.ref a)) (h : (Jvm.Cond.eq (Jvm.Term.field t C n d) (Jvm.Term.int k)).value args s none s [] = some true) : Fld s s.heap a C n d (.int k) :=
  Fld.start ((fld_at ev).symm.trans (own_eq_int h))
theorem own_nar_c (x : Int32) : nar .char (x.toUInt32.toUInt16.toUInt32.toInt32) = x.toUInt32.toUInt16.toUInt32.toInt32 := Value.int.inj (Jvm.Free.XT.narrow_c x)
theorem own_nar_b (x : Int32) : nar .byte (x.toInt8.toInt32) = x.toInt8.toInt32 := Value.int.inj (Jvm.Free.XT.narrow_b x)
theorem own_NSroot {Z : State} {a0 : Array Value} {O K : String} {n : Nat} (w : (Jvm.Cond.noSuperclass O).before a0 Z = true) (wk : (Jvm.Cond.instantiable K n).before a0 Z = true) (hn : O ≠ K) : NS Z O K := by
  obtain ⟨c, k, h1, h2, h3, -, -⟩ := Cond.noSuperclass_spec w
  obtain ⟨t, kt, g1, -⟩ := Cond.instantiable_spec wk
  have ne := ids_ne h1 g1 hn
  refine ⟨c, t, h1, g1, fun fuel => ?_⟩
  cases fuel with
  | zero => rfl
  | succ f => simp [Vm.isSubclassAux, ne, h2, h3]
theorem own_NSno {Z : State} {a0 : Array Value} {C S K : String} {m : Nat} (w : (Jvm.Cond.superclass C S).before a0 Z = true) (wk : (Jvm.Cond.instantiable K m).before a0 Z = true) (n : NS Z C K) (hn : C ≠ K) : ∃ c t, Z.vm.findClass C = some c ∧ Z.vm.findClass K = some t ∧ Z.vm.assignable c t = false := by
  obtain ⟨c, t, h0, g0, n3⟩ := n
  obtain ⟨p, k, kp, h1, h2, h3, h4, h5, -, h7⟩ := Cond.superclass_spec h0 w
  obtain ⟨t', k', g1, g2, g5, g7, -⟩ := Cond.instantiable_spec wk
  cases g0.symm.trans g1
  have g8 : k'.isInterface = false := by
    cases hi : k'.isInterface <;> simp [hi] at g7 ⊢
  have ne := ids_ne h0 g0 hn
  refine ⟨c, t, h0, g0, ?_⟩
  show Z.vm.assignableAux (255 + 1) c t = false
  simp [Vm.assignableAux, ne, h2, g2, h5, g5, g8, Vm.isSubclass, n3]
theorem own_monoW {s t : State} {o : Outcome} {L : List Loc} {k n k' n' : Nat} (h : ReturnedEndW s o t L k n) (hk : k ≤ k') (hn : n ≤ n') : ReturnedEndW s o t L k' n' := ⟨h.1, h.2.1, h.2.2.1, h.2.2.2.mono hk hn⟩
theorem own_ldcSL {p : Program} {l : Launch} {e : Env} {R : Room} {s : State} {vm0 : Vm} {m : MethodId} {args : Array Value} {below : List Frame} {meth : Method} {c : Code} {T : State} {locs : List Loc} {cells slots : Nat} {Z : State} {a0 : Array Value} {h : Heap}
    (X : Stand p l e R (s.setVm vm0) m args below meth c T locs cells slots) (hx : p.tables.exec = Jvm.exec) (hZ : Z.Warmed39 vm0) {own text : String} {index : Nat} (hown : vm0.findClass own = some m.cls) (w : (Jvm.Cond.stringLink own index text).before a0 Z = true) (wS : ∀ a ∈ Bundle.stringAtoms, a.before a0 Z = true)
    (eT : T.heap = h) {k0 : Nat} (hS : s.Since vm0 k0) (hk : k0 ≤ h.size) {g : JFrame} (hg : g.method = m) (hd : decode c.code g.pc = .ok (.ldc index, 2)) {n : Nat} (hn : 4 * text.toList.length ≤ n) (hbig : n ≤ 536870912) (hc : cells + 2 ≤ R.cells) (hl : slots + (n + 4) ≤ R.slots) :
    ∃ (a : Addr) (T' : State) (h' : Heap) (k1 : Nat), Stand p l e R (s.setVm T'.vm) m args below meth c T' locs (cells + 2) (slots + (n + 4)) ∧ T'.heap = h' ∧ Ext h h' ∧ s.Since T'.vm k1 ∧ k1 ≤ h'.size ∧ Z.Warmed39 (s.setVm T'.vm).vm ∧ (s.setVm T'.vm).vm.findClass own = some m.cls ∧ Lit (s.setVm T'.vm) own index a ∧ (s.setVm vm0).Warmed39 T'.vm ∧
      ∀ target, Steps p.tables e below (T'.setTop { g with pc := g.pc + 2, stack := .ref a :: g.stack }) target → Steps p.tables e below (T.setTop g) target := by
  have wS' : ∀ d ∈ Bundle.stringAtoms, d.before args (s.setVm vm0) = true := fun d hd => by
    have q := wS d hd
    simp only [Bundle.stringAtoms, List.mem_cons, List.not_mem_nil, or_false] at hd
    rcases hd with rfl | rfl | rfl | rfl | rfl | rfl | rfl
    · exact mv (s := s.setVm vm0) hZ q
    · exact mv (s := s.setVm vm0) hZ q
    · exact mvA (s := s.setVm vm0) hZ q
    · exact mv (s := s.setVm vm0) hZ q
    · exact mv (s := s.setVm vm0) hZ q
    · exact mv (s := s.setVm vm0) hZ q
    · exact mv (s := s.setVm vm0) hZ q
  obtain ⟨a, T', X', hS', ⟨kk, hkk, hrr⟩, hb, -, st⟩ := X.ldcStringCold hx (own := own) hown (mvS hZ w) wS' hg hd hn hbig hc hl
  subst eT
  have hf : T'.vm.findClass own = some m.cls := by rw [hS'.1.alike.findClass]; exact hown
  exact ⟨a, T', _, _, X', rfl, ext_of hb, hS.trans hS' (Nat.le_trans hk (ext_of hb).1), Nat.le_refl _, State.Warmed39.trans (t := s.setVm vm0) hZ hS'.1, hf, by simp [Lit, State.resolvedAt?, hf, hkk, hrr], hS'.1, st⟩
theorem own_selfsel {Z s : State} {a0 args : Array Value} {y : MethodName} {n : Nat} (hZ : Z.Warmed39 s.vm) (wi : (Jvm.Cond.instantiable y.cls n).before a0 Z = true) (wm : (Jvm.Cond.instanceMethod y).before a0 Z = true) (wp : (Jvm.Cond.privateMethod y).before a0 Z = true) (hy : y.cls ≠ "java/lang/invoke/MethodHandle" ∧ y.cls ≠ "java/lang/invoke/VarHandle") : (Jvm.Cond.selects y.cls y y).before args s = true := by
  obtain ⟨c, k, h1, h2, -, h4, -⟩ := Cond.instantiable_spec (mvT (args := args) hZ wi)
  have g8 : k.isInterface = false := by
    cases hi : k.isInterface <;> simp [hi] at h4 ⊢
  exact selects_self_of_private h1 h2 g8 (Cond.privateMethod_at (mvP hZ wp (args := #[]))) (mvT hZ wm) hy
theorem own_addeq {k a b m n : Nat} (h : k = a + b) (h1 : a = m) (h2 : m + b = n) : k = n := by subst h1; exact h.trans h2
theorem own_lt {a b : Nat} (h : a < b) : a < b := h
theorem own_ne {a b : Nat} (h : a < b ∨ b < a) : a ≠ b := by omega

theorem own_pn0 : plainName "java/lang/Record" = true := by first | (simp [plainName, overriddenIn]; done) | decide +kernel
theorem own_pn1 : plainName "com/example/epsilonet/epsilonet/service/ObservationTree$Outcome" = true := by first | (simp [plainName, overriddenIn]; done) | decide +kernel
theorem own_pn2 : plainName "java/lang/Long" = true := by first | (simp [plainName, overriddenIn]; done) | decide +kernel
theorem own_pn3 : plainName "com/example/epsilonet/epsilonet/service/OutcomeHashCodePinLaw" = true := by first | (simp [plainName, overriddenIn]; done) | decide +kernel
theorem own_pd0 : parseMethodDescriptor "()V" = some ⟨[], none⟩ := by decide +kernel
theorem own_pd1 : parseMethodDescriptor "(J)I" = some ⟨[.long], some .int⟩ := by decide +kernel
theorem own_pd2 : parseMethodDescriptor "(JJ)V" = some ⟨[.long, .long], none⟩ := by decide +kernel
theorem own_pd3 : parseMethodDescriptor "()I" = some ⟨[], some .int⟩ := by decide +kernel
theorem own_d2_0 : decode jdk_30_method_1_code 0 = .ok (.aload_n 0, 1) := by decide +kernel
theorem own_d2_1 : decode jdk_30_method_1_code 1 = .ok (.invokespecial 1, 3) := by decide +kernel
theorem own_d2_4 : decode jdk_30_method_1_code 4 = .ok (.return_, 1) := by decide +kernel
theorem own_ef_own_rm2 (m : MethodId) (x0 : Addr) : entryFrame m #[(.ref x0)] 1 = mkF m 0 #[.val (.ref x0)] [] := by first | (simp [entryFrame, mkF, argsToLocals, Value.category]; done) | rfl
def own_Q2 (Z : State) (a_1 : Addr) (h0 : Heap) (n0 : Nat) (v : Option Value) (h : Heap) (L : List Loc) : Prop := v = none ∧ Fr n0 L ∧ h = h0
set_option maxRecDepth 65536 in
set_option maxHeartbeats 40000000 in
theorem own_rm2 (l : Launch) (Z : State) (a0 : Array Value) (hw : ∀ d ∈ tables_1, d.before a0 Z = true) (ws : List Jvm.Cond) (a_1 : Addr) (h0 : Heap) (n0 : Nat) (Z0 : n0 ≤ h0.size) :
    MetFree l (⟨"java/lang/Record", "<init>", "()V"⟩ : MethodName) (head1 (Jvm.Cond.code (⟨"java/lang/Record", "<init>", "()V"⟩ : MethodName) jdk_30_method_1_code 1 none :: ws) ({ frames := 1, cells := 0, slots := 0, locals := 12 } : Room)) (fun a U => a = #[(.ref a_1)] ∧ Z.Warmed39 U.vm ∧ U.heap = h0) (fun _ _ _ _ _ => True) (fun _ U o U' => ∃ v L, o = .returned v ∧ own_Q2 Z a_1 h0 n0 v U'.heap L ∧ FrameEnd U o U' L ({ frames := 1, cells := 0, slots := 0, locals := 12 } : Room).cells ({ frames := 1, cells := 0, slots := 0, locals := 12 } : Room).slots) := by
  refine MetFree.of_bodySF (plainFor_of_name own_pn0) hisR ?_
  intro p e s m args below meth c s₁ Bd hml0 hP hK
  obtain ⟨rfl, hZ, hh⟩ := hP
  have hx := Bd.exec
  have hby := Bd.bytes
  have hml : c.maxLocals = 1 := hml0
  have hown : s.vm.findClass "java/lang/Record" = some m.cls := findClass_of_methodNamed Bd.named
  have hnm := (name_of_methodNamed Bd.named Bd.method).1
  have X0 : Stand p l e ({ frames := 1, cells := 0, slots := 0, locals := 12 } : Room) s m #[(.ref a_1)] below meth c s₁ [] 0 0 := Stand.of_body Bd
  have e0 : s₁.heap = h0 := by rw [← hh, Bd.state]; rfl
  have N0 := Fr.nil n0
  have z0 : n0 ≤ h0.size := Z0
  show own_Go p.tables e below (fun t o => t.status = .running ∧ Ended t below o ∧ ∃ v L, o = .returned v ∧ own_Q2 Z a_1 h0 n0 v t.heap L ∧ FrameEnd s o t L ({ frames := 1, cells := 0, slots := 0, locals := 12 } : Room).cells ({ frames := 1, cells := 0, slots := 0, locals := 12 } : Room).slots) s₁ (entryFrame m #[(.ref a_1)] 1)
  rw [own_ef_own_rm2 m a_1]
  show own_Go _ _ _ _ s₁ (mkF m 0 #[.val (.ref a_1)] [])
  refine own_go (fun _ k => XS.aloadN X0.here hx rfl (hb hby own_d2_0) rfl rfl k) ?_
  show own_Go _ _ _ _ s₁ (mkF m 1 #[.val (.ref a_1)] [(.ref a_1)])
  obtain ⟨T1, X1, e1, st1⟩ := initO X0 hx hZ hown (hw _ (List.mem_of_getElem? (i := 11) rfl)) (hw _ (List.mem_of_getElem? (i := 12) rfl)) (hw _ (List.mem_of_getElem? (i := 13) rfl)) e0 (g := (mkF m 1 #[.val (.ref a_1)] [(.ref a_1)])) rfl (by rw [hml]; rfl) rfl (hb hby own_d2_1) (by decide) (W := 0) (by show 2 * 0 + _ ≤ _; exact Nat.le_of_eq rfl) (by decide)
  refine own_go (fun _ k => st1 _ k) ?_
  show own_Go _ _ _ _ T1 (mkF m 4 #[.val (.ref a_1)] [])
  obtain ⟨fs, hr, hrun, hended, hW, hsame⟩ := X1.leave (v := none) (fun _ => rfl)
  refine ⟨_, _, X1.returnOut hx Bd.returns (hb hby own_d2_4) hr, hrun, hended, _, _, rfl, ?_, ⟨_, rfl⟩, hW, hsame.mono (by decide) (by decide)⟩
  show own_Q2 Z a_1 h0 n0 _ T1.heap _
  rw [e1]
  exact ⟨rfl, N0, rfl⟩
theorem own_d1_0 : decode prog_38_method_1_code 0 = .ok (.aload_n 0, 1) := by decide +kernel
theorem own_d1_1 : decode prog_38_method_1_code 1 = .ok (.invokespecial 1, 3) := by decide +kernel
theorem own_d1_4 : decode prog_38_method_1_code 4 = .ok (.aload_n 0, 1) := by decide +kernel
theorem own_d1_5 : decode prog_38_method_1_code 5 = .ok (.lload_n 1, 1) := by decide +kernel
theorem own_d1_6 : decode prog_38_method_1_code 6 = .ok (.putfield 7, 3) := by decide +kernel
theorem own_d1_9 : decode prog_38_method_1_code 9 = .ok (.aload_n 0, 1) := by decide +kernel
theorem own_d1_10 : decode prog_38_method_1_code 10 = .ok (.lload_n 3, 1) := by decide +kernel
theorem own_d1_11 : decode prog_38_method_1_code 11 = .ok (.putfield 13, 3) := by decide +kernel
theorem own_d1_14 : decode prog_38_method_1_code 14 = .ok (.return_, 1) := by decide +kernel
theorem own_ef_own_rm1 (m : MethodId) (x0 : Addr) (x1 : Int64) (x2 : Int64) : entryFrame m #[(.ref x0), (.long x1), (.long x2)] 5 = mkF m 0 #[.val (.ref x0), .val (.long x1), .second, .val (.long x2), .second] [] := by first | (simp [entryFrame, mkF, argsToLocals, Value.category]; done) | rfl
def own_Q1 (Z : State) (a_1 : Addr) (q_2 : Int64) (q_3 : Int64) (w_observed_a_1 : Int64) (w_values_a_1 : Int64) (h0 : Heap) (n0 : Nat) (v : Option Value) (h : Heap) (L : List Loc) : Prop := v = none ∧ Fr n0 L ∧ Keep h0 h [a_1] ∧ Exa Z h a_1 "com/example/epsilonet/epsilonet/service/ObservationTree$Outcome" ∧ Fld Z h a_1 "com/example/epsilonet/epsilonet/service/ObservationTree$Outcome" "observed" "J" (.long q_2) ∧ Fld Z h a_1 "com/example/epsilonet/epsilonet/service/ObservationTree$Outcome" "values" "J" (.long q_3)
set_option maxRecDepth 65536 in
set_option maxHeartbeats 40000000 in
theorem own_rm1 (l : Launch) (Z : State) (a0 : Array Value) (hw : ∀ d ∈ tables_1, d.before a0 Z = true) (ws : List Jvm.Cond) (a_1 : Addr) (q_2 : Int64) (q_3 : Int64) (w_observed_a_1 : Int64) (w_values_a_1 : Int64) (h0 : Heap) (n0 : Nat) (Z0 : n0 ≤ h0.size) (pr_E_a_1 : Exa Z h0 a_1 "com/example/epsilonet/epsilonet/service/ObservationTree$Outcome") (pr_F_a_1_observed : Fld Z h0 a_1 "com/example/epsilonet/epsilonet/service/ObservationTree$Outcome" "observed" "J" (.long w_observed_a_1)) (pr_F_a_1_values : Fld Z h0 a_1 "com/example/epsilonet/epsilonet/service/ObservationTree$Outcome" "values" "J" (.long w_values_a_1)) (gw_a_1 : n0 ≤ a_1) :
    MetFree l (⟨"com/example/epsilonet/epsilonet/service/ObservationTree$Outcome", "<init>", "(JJ)V"⟩ : MethodName) (head1 (Jvm.Cond.code (⟨"com/example/epsilonet/epsilonet/service/ObservationTree$Outcome", "<init>", "(JJ)V"⟩ : MethodName) prog_38_method_1_code 5 none :: ws) ({ frames := 2, cells := 0, slots := 0, locals := 24 } : Room)) (fun a U => a = #[(.ref a_1), (.long q_2), (.long q_3)] ∧ Z.Warmed39 U.vm ∧ U.heap = h0) (fun _ _ _ _ _ => True) (fun _ U o U' => ∃ v L, o = .returned v ∧ own_Q1 Z a_1 q_2 q_3 w_observed_a_1 w_values_a_1 h0 n0 v U'.heap L ∧ FrameEnd U o U' L ({ frames := 2, cells := 0, slots := 0, locals := 24 } : Room).cells ({ frames := 2, cells := 0, slots := 0, locals := 24 } : Room).slots) := by
  refine MetFree.of_bodySF (plainFor_of_name own_pn1) hisR ?_
  intro p e s m args below meth c s₁ Bd hml0 hP hK
  obtain ⟨rfl, hZ, hh⟩ := hP
  have hx := Bd.exec
  have hby := Bd.bytes
  have hml : c.maxLocals = 5 := hml0
  have hown : s.vm.findClass "com/example/epsilonet/epsilonet/service/ObservationTree$Outcome" = some m.cls := findClass_of_methodNamed Bd.named
  have hnm := (name_of_methodNamed Bd.named Bd.method).1
  have X0 : Stand p l e ({ frames := 2, cells := 0, slots := 0, locals := 24 } : Room) s m #[(.ref a_1), (.long q_2), (.long q_3)] below meth c s₁ [] 0 0 := Stand.of_body Bd
  have e0 : s₁.heap = h0 := by rw [← hh, Bd.state]; rfl
  have N0 := Fr.nil n0
  have z0 : n0 ≤ h0.size := Z0
  have z1 := own_lt pr_E_a_1.lt
  have z2 := own_lt pr_F_a_1_observed.lt
  have z3 := own_lt pr_F_a_1_values.lt
  have K0 : Keep h0 h0 [a_1] := Keep.refl h0 _
  show own_Go p.tables e below (fun t o => t.status = .running ∧ Ended t below o ∧ ∃ v L, o = .returned v ∧ own_Q1 Z a_1 q_2 q_3 w_observed_a_1 w_values_a_1 h0 n0 v t.heap L ∧ FrameEnd s o t L ({ frames := 2, cells := 0, slots := 0, locals := 24 } : Room).cells ({ frames := 2, cells := 0, slots := 0, locals := 24 } : Room).slots) s₁ (entryFrame m #[(.ref a_1), (.long q_2), (.long q_3)] 5)
  rw [own_ef_own_rm1 m a_1 q_2 q_3]
  show own_Go _ _ _ _ s₁ (mkF m 0 #[.val (.ref a_1), .val (.long q_2), .second, .val (.long q_3), .second] [])
  refine own_go (fun _ k => XS.aloadN X0.here hx rfl (hb hby own_d1_0) rfl rfl k) ?_
  show own_Go _ _ _ _ s₁ (mkF m 1 #[.val (.ref a_1), .val (.long q_2), .second, .val (.long q_3), .second] [(.ref a_1)])
  obtain ⟨_, _, ⟨T4, L4, k4, n4⟩, -, X4, ⟨Lc4, hQ4, l4, y4, z4⟩, st4⟩ := X0.specialBack hx (y := (⟨"java/lang/Record", "<init>", "()V"⟩ : MethodName)) rfl hown (mvT hZ (hw _ (List.mem_of_getElem? (i := 6) rfl))) (mvT hZ (hw _ (List.mem_of_getElem? (i := 7) rfl))) (mvT hZ (hw _ (List.mem_of_getElem? (i := 10) rfl))) (by decide) (backOf (W := 0) (own_rm2 l Z a0 hw [] a_1  h0 n0 (by omega) ) hZ (hw _ (List.mem_of_getElem? (i := 10) rfl)) (hw _ (List.mem_of_getElem? (i := 9) rfl)) (by decide) (by decide)) (g := (mkF m 1 #[.val (.ref a_1), .val (.long q_2), .second, .val (.long q_3), .second] [(.ref a_1)])) rfl (by rw [hml]; rfl) (Steps.refl _) (a := a_1) (argsL := []) (rest := []) (lenOf own_pd0 rfl) rfl (by show 2 * 0 + _ ≤ _; exact Nat.le_of_eq rfl) (hb hby own_d1_1) (fun _ _ => ⟨rfl, e0, (by decide : 0 + 0 ≤ _), (by decide : 0 + 0 ≤ _)⟩)
  dsimp only [Pt.U, Pt.locs, Pt.cells, Pt.slots] at X4 l4 y4 z4 st4 hQ4
  have y4 : k4 = 0 := y4
  have z4 : n4 = 0 := z4
  obtain ⟨rfl, N4q, e4⟩ := hQ4
  have N4 : Fr n0 L4 := by rw [l4]; exact Fr.app N0 N4q
  refine own_go (fun _ k => st4.trans k) ?_
  show own_Go _ _ _ _ T4 (mkF m 4 #[.val (.ref a_1), .val (.long q_2), .second, .val (.long q_3), .second] [])
  refine own_go (fun _ k => XS.aloadN X4.here hx rfl (hb hby own_d1_4) rfl rfl k) ?_
  show own_Go _ _ _ _ T4 (mkF m 5 #[.val (.ref a_1), .val (.long q_2), .second, .val (.long q_3), .second] [(.ref a_1)])
  refine own_go (fun _ k => XS.lloadN X4.here hx rfl (hb hby own_d1_5) rfl k) ?_
  show own_Go _ _ _ _ T4 (mkF m 6 #[.val (.ref a_1), .val (.long q_2), .second, .val (.long q_3), .second] [(.long q_2), (.ref a_1)])
  obtain ⟨T5, h5, X5, e5, W5, st5⟩ := putF X4 hx hZ hown (host := "") (Or.inl (hw _ (List.mem_of_getElem? (i := 14) rfl))) Via.refl e4 pr_F_a_1_observed pr_E_a_1 (Or.inr ⟨(hw _ (List.mem_of_getElem? (i := 15) rfl)), rfl, hnm⟩) (hw _ (List.mem_of_getElem? (i := 1) rfl)) (ty := .long) (by decide) rfl rfl (g := (mkF m 6 #[.val (.ref a_1), .val (.long q_2), .second, .val (.long q_3), .second] [(.long q_2), (.ref a_1)])) rfl rfl (hb hby own_d1_6)
  have z6 := W5.size
  have K5 : Keep h0 h5 [a_1] := K0.wr W5 (Or.inl (List.mem_of_getElem? (i := 0) rfl))
  have N5 := Fr.snoc X5 N4 (by omega : n0 ≤ a_1)
  have Fw5 : Fld Z h5 a_1 "com/example/epsilonet/epsilonet/service/ObservationTree$Outcome" "observed" "J" (.long q_2) := Fld.same W5 pr_F_a_1_observed
  refine own_go (fun _ k => st5 _ k) ?_
  show own_Go _ _ _ _ T5 (mkF m 9 #[.val (.ref a_1), .val (.long q_2), .second, .val (.long q_3), .second] [])
  refine own_go (fun _ k => XS.aloadN X5.here hx rfl (hb hby own_d1_9) rfl rfl k) ?_
  show own_Go _ _ _ _ T5 (mkF m 10 #[.val (.ref a_1), .val (.long q_2), .second, .val (.long q_3), .second] [(.ref a_1)])
  refine own_go (fun _ k => XS.lloadN X5.here hx rfl (hb hby own_d1_10) rfl k) ?_
  show own_Go _ _ _ _ T5 (mkF m 11 #[.val (.ref a_1), .val (.long q_2), .second, .val (.long q_3), .second] [(.long q_3), (.ref a_1)])
  have f7 : Exa Z h5 a_1 "com/example/epsilonet/epsilonet/service/ObservationTree$Outcome" := (pr_E_a_1.wr W5)
  have f8 : Fld Z h5 a_1 "com/example/epsilonet/epsilonet/service/ObservationTree$Outcome" "values" "J" (.long w_values_a_1) := (pr_F_a_1_values.other W5 (Or.inr (slot_ne (Or.inr (hw _ (List.mem_of_getElem? (i := 17) rfl))) (Or.inr (hw _ (List.mem_of_getElem? (i := 15) rfl))) (by decide) (t := .long) (t' := .long) (by decide) (by decide))))
  obtain ⟨T9, h9, X9, e9, W9, st9⟩ := putF X5 hx hZ hown (host := "") (Or.inl (hw _ (List.mem_of_getElem? (i := 16) rfl))) Via.refl e5 f8 f7 (Or.inr ⟨(hw _ (List.mem_of_getElem? (i := 17) rfl)), rfl, hnm⟩) (hw _ (List.mem_of_getElem? (i := 1) rfl)) (ty := .long) (by decide) rfl rfl (g := (mkF m 11 #[.val (.ref a_1), .val (.long q_2), .second, .val (.long q_3), .second] [(.long q_3), (.ref a_1)])) rfl rfl (hb hby own_d1_11)
  have z10 := W9.size
  have K9 : Keep h0 h9 [a_1] := K5.wr W9 (Or.inl (List.mem_of_getElem? (i := 0) rfl))
  have N9 := Fr.snoc X9 N5 (by omega : n0 ≤ a_1)
  have Fw9 : Fld Z h9 a_1 "com/example/epsilonet/epsilonet/service/ObservationTree$Outcome" "values" "J" (.long q_3) := Fld.same W9 f8
  refine own_go (fun _ k => st9 _ k) ?_
  show own_Go _ _ _ _ T9 (mkF m 14 #[.val (.ref a_1), .val (.long q_2), .second, .val (.long q_3), .second] [])
  obtain ⟨fs, hr, hrun, hended, hW, hsame⟩ := X9.leave (v := none) (fun _ => rfl)
  refine ⟨_, _, X9.returnOut hx Bd.returns (hb hby own_d1_14) hr, hrun, hended, _, _, rfl, ?_, ⟨_, rfl⟩, hW, hsame.mono (by rw [y4]; decide) (by rw [z4]; decide)⟩
  show own_Q1 Z a_1 q_2 q_3 w_observed_a_1 w_values_a_1 h0 n0 _ T9.heap _
  rw [e9]
  have f12 : Exa Z h9 a_1 "com/example/epsilonet/epsilonet/service/ObservationTree$Outcome" := (f7.wr W9)
  have f13 : Fld Z h9 a_1 "com/example/epsilonet/epsilonet/service/ObservationTree$Outcome" "observed" "J" (.long q_2) := (Fw5.other W9 (Or.inr (slot_ne (Or.inr (hw _ (List.mem_of_getElem? (i := 15) rfl))) (Or.inr (hw _ (List.mem_of_getElem? (i := 17) rfl))) (by decide) (t := .long) (t' := .long) (by decide) (by decide))))
  exact ⟨rfl, N9, K9, f12, f13, Fw9⟩
theorem own_d5_0 : decode jdk_35_method_36_code 0 = .ok (.lload_n 0, 1) := by decide +kernel
theorem own_d5_1 : decode jdk_35_method_36_code 1 = .ok (.lload_n 0, 1) := by decide +kernel
theorem own_d5_2 : decode jdk_35_method_36_code 2 = .ok (.bipush 32, 2) := by decide +kernel
theorem own_d5_4 : decode jdk_35_method_36_code 4 = .ok (.lushr, 1) := by decide +kernel
theorem own_d5_5 : decode jdk_35_method_36_code 5 = .ok (.lxor, 1) := by decide +kernel
theorem own_d5_6 : decode jdk_35_method_36_code 6 = .ok (.l2i, 1) := by decide +kernel
theorem own_d5_7 : decode jdk_35_method_36_code 7 = .ok (.ireturn, 1) := by decide +kernel
theorem own_ef_own_rm5 (m : MethodId) (x0 : Int64) : entryFrame m #[(.long x0)] 2 = mkF m 0 #[.val (.long x0), .second] [] := by first | (simp [entryFrame, mkF, argsToLocals, Value.category]; done) | rfl
def own_Q5 (Z : State) (q_1 : Int64) (h0 : Heap) (n0 : Nat) (v : Option Value) (h : Heap) (L : List Loc) : Prop := ∃ (r_ : Int32), v = some (.int r_) ∧ Fr n0 L ∧ r_ = ((q_1 ^^^ ((q_1.toUInt64 >>> ((32 : Int32) &&& 0x3f).toInt64.toUInt64).toInt64)).toInt32) ∧ h = h0
set_option maxRecDepth 65536 in
set_option maxHeartbeats 40000000 in
theorem own_rm5 (l : Launch) (Z : State) (a0 : Array Value) (hw : ∀ d ∈ tables_1, d.before a0 Z = true) (ws : List Jvm.Cond) (q_1 : Int64) (h0 : Heap) (n0 : Nat) (Z0 : n0 ≤ h0.size) :
    MetFree l (⟨"java/lang/Long", "hashCode", "(J)I"⟩ : MethodName) (head1 (Jvm.Cond.code (⟨"java/lang/Long", "hashCode", "(J)I"⟩ : MethodName) jdk_35_method_36_code 2 (some .int) :: ws) ({ frames := 0, cells := 0, slots := 0, locals := 0 } : Room)) (fun a U => a = #[(.long q_1)] ∧ Z.Warmed39 U.vm ∧ U.heap = h0) (fun _ _ _ _ _ => True) (fun _ U o U' => ∃ v L, o = .returned v ∧ own_Q5 Z q_1 h0 n0 v U'.heap L ∧ FrameEnd U o U' L ({ frames := 0, cells := 0, slots := 0, locals := 0 } : Room).cells ({ frames := 0, cells := 0, slots := 0, locals := 0 } : Room).slots) := by
  refine MetFree.of_bodySF (plainFor_of_name own_pn2) hisR ?_
  intro p e s m args below meth c s₁ Bd hml0 hP hK
  obtain ⟨rfl, hZ, hh⟩ := hP
  have hx := Bd.exec
  have hby := Bd.bytes
  have hml : c.maxLocals = 2 := hml0
  have hown : s.vm.findClass "java/lang/Long" = some m.cls := findClass_of_methodNamed Bd.named
  have hnm := (name_of_methodNamed Bd.named Bd.method).1
  have X0 : Stand p l e ({ frames := 0, cells := 0, slots := 0, locals := 0 } : Room) s m #[(.long q_1)] below meth c s₁ [] 0 0 := Stand.of_body Bd
  have e0 : s₁.heap = h0 := by rw [← hh, Bd.state]; rfl
  have N0 := Fr.nil n0
  have z0 : n0 ≤ h0.size := Z0
  show own_Go p.tables e below (fun t o => t.status = .running ∧ Ended t below o ∧ ∃ v L, o = .returned v ∧ own_Q5 Z q_1 h0 n0 v t.heap L ∧ FrameEnd s o t L ({ frames := 0, cells := 0, slots := 0, locals := 0 } : Room).cells ({ frames := 0, cells := 0, slots := 0, locals := 0 } : Room).slots) s₁ (entryFrame m #[(.long q_1)] 2)
  rw [own_ef_own_rm5 m q_1]
  show own_Go _ _ _ _ s₁ (mkF m 0 #[.val (.long q_1), .second] [])
  refine own_go (fun _ k => XS.lloadN X0.here hx rfl (hb hby own_d5_0) rfl k) ?_
  show own_Go _ _ _ _ s₁ (mkF m 1 #[.val (.long q_1), .second] [(.long q_1)])
  refine own_go (fun _ k => XS.lloadN X0.here hx rfl (hb hby own_d5_1) rfl k) ?_
  show own_Go _ _ _ _ s₁ (mkF m 2 #[.val (.long q_1), .second] [(.long q_1), (.long q_1)])
  refine own_go (fun _ k => XS.bipush X0.here hx rfl (hb hby own_d5_2) k) ?_
  show own_Go _ _ _ _ s₁ (mkF m 4 #[.val (.long q_1), .second] [(.int (32 : Int32)), (.long q_1), (.long q_1)])
  refine own_go (fun _ k => XS.lushr X0.here hx rfl (hb hby own_d5_4) rfl k) ?_
  show own_Go _ _ _ _ s₁ (mkF m 5 #[.val (.long q_1), .second] [(.long ((q_1.toUInt64 >>> ((32 : Int32) &&& 0x3f).toInt64.toUInt64).toInt64)), (.long q_1)])
  refine own_go (fun _ k => XS.lxor X0.here hx rfl (hb hby own_d5_5) rfl k) ?_
  show own_Go _ _ _ _ s₁ (mkF m 6 #[.val (.long q_1), .second] [(.long (q_1 ^^^ ((q_1.toUInt64 >>> ((32 : Int32) &&& 0x3f).toInt64.toUInt64).toInt64)))])
  refine own_go (fun _ k => XS.l2i X0.here hx rfl (hb hby own_d5_6) rfl k) ?_
  show own_Go _ _ _ _ s₁ (mkF m 7 #[.val (.long q_1), .second] [(.int ((q_1 ^^^ ((q_1.toUInt64 >>> ((32 : Int32) &&& 0x3f).toInt64.toUInt64).toInt64)).toInt32))])
  obtain ⟨fs, hr, hrun, hended, hW, hsame⟩ := X0.leave (v := some (.int ((q_1 ^^^ ((q_1.toUInt64 >>> ((32 : Int32) &&& 0x3f).toInt64.toUInt64).toInt64)).toInt32))) (fun h => by rw [Bd.returns] at h; cases h)
  refine ⟨_, _, retOut X0 hx Bd.returns rfl (Or.inl ⟨rfl, Or.inl rfl, _, rfl⟩) (hb hby own_d5_7) hr, hrun, hended, _, _, rfl, ?_, ⟨_, rfl⟩, hW, hsame.mono (by decide) (by decide)⟩
  show own_Q5 Z q_1 h0 n0 _ s₁.heap _
  rw [e0]
  exact ⟨_, rfl, N0, (by subst_vars; rfl), rfl⟩
theorem own_d4_0 : decode prog_38_method_4_code 0 = .ok (.bipush 31, 2) := by decide +kernel
theorem own_d4_2 : decode prog_38_method_4_code 2 = .ok (.aload_n 0, 1) := by decide +kernel
theorem own_d4_3 : decode prog_38_method_4_code 3 = .ok (.getfield 7, 3) := by decide +kernel
theorem own_d4_6 : decode prog_38_method_4_code 6 = .ok (.invokestatic 18, 3) := by decide +kernel
theorem own_d4_9 : decode prog_38_method_4_code 9 = .ok (.imul, 1) := by decide +kernel
theorem own_d4_10 : decode prog_38_method_4_code 10 = .ok (.aload_n 0, 1) := by decide +kernel
theorem own_d4_11 : decode prog_38_method_4_code 11 = .ok (.getfield 13, 3) := by decide +kernel
theorem own_d4_14 : decode prog_38_method_4_code 14 = .ok (.invokestatic 18, 3) := by decide +kernel
theorem own_d4_17 : decode prog_38_method_4_code 17 = .ok (.iadd, 1) := by decide +kernel
theorem own_d4_18 : decode prog_38_method_4_code 18 = .ok (.ireturn, 1) := by decide +kernel
theorem own_ef_own_rm4 (m : MethodId) (x0 : Addr) : entryFrame m #[(.ref x0)] 1 = mkF m 0 #[.val (.ref x0)] [] := by first | (simp [entryFrame, mkF, argsToLocals, Value.category]; done) | rfl
def own_Q4 (Z : State) (a_1 : Addr) (w_observed_a_1 : Int64) (w_values_a_1 : Int64) (h0 : Heap) (n0 : Nat) (v : Option Value) (h : Heap) (L : List Loc) : Prop := ∃ (r_ : Int32), v = some (.int r_) ∧ Fr n0 L ∧ r_ = (((31 : Int32) * ((w_observed_a_1 ^^^ ((w_observed_a_1.toUInt64 >>> ((32 : Int32) &&& 0x3f).toInt64.toUInt64).toInt64)).toInt32)) + ((w_values_a_1 ^^^ ((w_values_a_1.toUInt64 >>> ((32 : Int32) &&& 0x3f).toInt64.toUInt64).toInt64)).toInt32)) ∧ h = h0
set_option maxRecDepth 65536 in
set_option maxHeartbeats 40000000 in
theorem own_rm4 (l : Launch) (Z : State) (a0 : Array Value) (hw : ∀ d ∈ tables_1, d.before a0 Z = true) (ws : List Jvm.Cond) (a_1 : Addr) (w_observed_a_1 : Int64) (w_values_a_1 : Int64) (h0 : Heap) (n0 : Nat) (Z0 : n0 ≤ h0.size) (pr_F_a_1_observed : Fld Z h0 a_1 "com/example/epsilonet/epsilonet/service/ObservationTree$Outcome" "observed" "J" (.long w_observed_a_1)) (pr_F_a_1_values : Fld Z h0 a_1 "com/example/epsilonet/epsilonet/service/ObservationTree$Outcome" "values" "J" (.long w_values_a_1)) :
    MetFree l (⟨"com/example/epsilonet/epsilonet/service/ObservationTree$Outcome", "hashCode", "()I"⟩ : MethodName) (head1 (Jvm.Cond.code (⟨"com/example/epsilonet/epsilonet/service/ObservationTree$Outcome", "hashCode", "()I"⟩ : MethodName) prog_38_method_4_code 1 (some .int) :: ws) ({ frames := 1, cells := 0, slots := 0, locals := 14 } : Room)) (fun a U => a = #[(.ref a_1)] ∧ Z.Warmed39 U.vm ∧ U.heap = h0) (fun _ _ _ _ _ => True) (fun _ U o U' => ∃ v L, o = .returned v ∧ own_Q4 Z a_1 w_observed_a_1 w_values_a_1 h0 n0 v U'.heap L ∧ FrameEnd U o U' L ({ frames := 1, cells := 0, slots := 0, locals := 14 } : Room).cells ({ frames := 1, cells := 0, slots := 0, locals := 14 } : Room).slots) := by
  refine MetFree.of_bodySF (plainFor_of_name own_pn1) hisR ?_
  intro p e s m args below meth c s₁ Bd hml0 hP hK
  obtain ⟨rfl, hZ, hh⟩ := hP
  have hx := Bd.exec
  have hby := Bd.bytes
  have hml : c.maxLocals = 1 := hml0
  have hown : s.vm.findClass "com/example/epsilonet/epsilonet/service/ObservationTree$Outcome" = some m.cls := findClass_of_methodNamed Bd.named
  have hnm := (name_of_methodNamed Bd.named Bd.method).1
  have X0 : Stand p l e ({ frames := 1, cells := 0, slots := 0, locals := 14 } : Room) s m #[(.ref a_1)] below meth c s₁ [] 0 0 := Stand.of_body Bd
  have e0 : s₁.heap = h0 := by rw [← hh, Bd.state]; rfl
  have N0 := Fr.nil n0
  have z0 : n0 ≤ h0.size := Z0
  have z1 := own_lt pr_F_a_1_observed.lt
  have z2 := own_lt pr_F_a_1_values.lt
  show own_Go p.tables e below (fun t o => t.status = .running ∧ Ended t below o ∧ ∃ v L, o = .returned v ∧ own_Q4 Z a_1 w_observed_a_1 w_values_a_1 h0 n0 v t.heap L ∧ FrameEnd s o t L ({ frames := 1, cells := 0, slots := 0, locals := 14 } : Room).cells ({ frames := 1, cells := 0, slots := 0, locals := 14 } : Room).slots) s₁ (entryFrame m #[(.ref a_1)] 1)
  rw [own_ef_own_rm4 m a_1]
  show own_Go _ _ _ _ s₁ (mkF m 0 #[.val (.ref a_1)] [])
  refine own_go (fun _ k => XS.bipush X0.here hx rfl (hb hby own_d4_0) k) ?_
  show own_Go _ _ _ _ s₁ (mkF m 2 #[.val (.ref a_1)] [(.int (31 : Int32))])
  refine own_go (fun _ k => XS.aloadN X0.here hx rfl (hb hby own_d4_2) rfl rfl k) ?_
  show own_Go _ _ _ _ s₁ (mkF m 3 #[.val (.ref a_1)] [(.ref a_1), (.int (31 : Int32))])
  obtain ⟨T3, X3, e3, st3⟩ := getF X0 hx hZ hown (host := "") (Or.inl (hw _ (List.mem_of_getElem? (i := 14) rfl))) Via.refl e0 pr_F_a_1_observed (g := (mkF m 3 #[.val (.ref a_1)] [(.ref a_1), (.int (31 : Int32))])) rfl rfl (hb hby own_d4_3)
  refine own_go (fun _ k => st3 _ k) ?_
  show own_Go _ _ _ _ T3 (mkF m 6 #[.val (.ref a_1)] [(.long w_observed_a_1), (.int (31 : Int32))])
  obtain ⟨_, _, ⟨T4, L4, k4, n4⟩, -, X4, ⟨Lc4, hQ4, l4, y4, z4⟩, st4⟩ := Jvm.LawKit.callS X3 hx (y := (⟨"java/lang/Long", "hashCode", "(J)I"⟩ : MethodName)) hown (mvT hZ (hw _ (List.mem_of_getElem? (i := 23) rfl))) (mvT hZ (hw _ (List.mem_of_getElem? (i := 24) rfl))) (mvT hZ (hw _ (List.mem_of_getElem? (i := 25) rfl))) (mvT hZ (hw _ (List.mem_of_getElem? (i := 26) rfl))) (by decide) (backOf (W := 1) (own_rm5 l Z a0 hw [] w_observed_a_1  h0 n0 (by omega) ) hZ (hw _ (List.mem_of_getElem? (i := 26) rfl)) (hw _ (List.mem_of_getElem? (i := 25) rfl)) (by decide) (by decide)) (g := (mkF m 6 #[.val (.ref a_1)] [(.long w_observed_a_1), (.int (31 : Int32))])) rfl (by rw [hml]; rfl) (argsL := [(.long w_observed_a_1)]) (rest := [(.int (31 : Int32))]) (lenOf own_pd1 rfl) rfl (by show 2 * 0 + _ ≤ _; exact Nat.le_of_eq rfl) (hb hby own_d4_6) (fun _ _ => ⟨rfl, e3, (by decide : 0 + 0 ≤ _), (by decide : 0 + 0 ≤ _)⟩)
  dsimp only [Pt.U, Pt.locs, Pt.cells, Pt.slots] at X4 l4 y4 z4 st4 hQ4
  have y4 : k4 = 0 := y4
  have z4 : n4 = 0 := z4
  obtain ⟨r5, rfl, N4q, hr_r5, e4⟩ := hQ4
  have N4 : Fr n0 L4 := by rw [l4]; exact Fr.app N0 N4q
  refine own_go (fun _ k => st4 _ k) ?_
  show own_Go _ _ _ _ T4 (mkF m 9 #[.val (.ref a_1)] [(.int r5), (.int (31 : Int32))])
  refine own_go (fun _ k => XS.imul X4.here hx rfl (hb hby own_d4_9) rfl k) ?_
  show own_Go _ _ _ _ T4 (mkF m 10 #[.val (.ref a_1)] [(.int ((31 : Int32) * r5))])
  refine own_go (fun _ k => XS.aloadN X4.here hx rfl (hb hby own_d4_10) rfl rfl k) ?_
  show own_Go _ _ _ _ T4 (mkF m 11 #[.val (.ref a_1)] [(.ref a_1), (.int ((31 : Int32) * r5))])
  obtain ⟨T6, X6, e6, st6⟩ := getF X4 hx hZ hown (host := "") (Or.inl (hw _ (List.mem_of_getElem? (i := 16) rfl))) Via.refl e4 pr_F_a_1_values (g := (mkF m 11 #[.val (.ref a_1)] [(.ref a_1), (.int ((31 : Int32) * r5))])) rfl rfl (hb hby own_d4_11)
  refine own_go (fun _ k => st6 _ k) ?_
  show own_Go _ _ _ _ T6 (mkF m 14 #[.val (.ref a_1)] [(.long w_values_a_1), (.int ((31 : Int32) * r5))])
  obtain ⟨_, _, ⟨T7, L7, k7, n7⟩, -, X7, ⟨Lc7, hQ7, l7, y7, z7⟩, st7⟩ := Jvm.LawKit.callS X6 hx (y := (⟨"java/lang/Long", "hashCode", "(J)I"⟩ : MethodName)) hown (mvT hZ (hw _ (List.mem_of_getElem? (i := 23) rfl))) (mvT hZ (hw _ (List.mem_of_getElem? (i := 24) rfl))) (mvT hZ (hw _ (List.mem_of_getElem? (i := 25) rfl))) (mvT hZ (hw _ (List.mem_of_getElem? (i := 26) rfl))) (by decide) (backOf (W := 1) (own_rm5 l Z a0 hw [] w_values_a_1  h0 n0 (by omega) ) hZ (hw _ (List.mem_of_getElem? (i := 26) rfl)) (hw _ (List.mem_of_getElem? (i := 25) rfl)) (by decide) (by decide)) (g := (mkF m 14 #[.val (.ref a_1)] [(.long w_values_a_1), (.int ((31 : Int32) * r5))])) rfl (by rw [hml]; rfl) (argsL := [(.long w_values_a_1)]) (rest := [(.int ((31 : Int32) * r5))]) (lenOf own_pd1 rfl) rfl (by show 2 * 0 + _ ≤ _; exact Nat.le_of_eq rfl) (hb hby own_d4_14) (fun _ _ => ⟨rfl, e6, (by show k4 + _ ≤ _; rw [y4]; decide), (by show n4 + _ ≤ _; rw [z4]; decide)⟩)
  dsimp only [Pt.U, Pt.locs, Pt.cells, Pt.slots] at X7 l7 y7 z7 st7 hQ7
  have y7 : k7 = 0 := own_addeq y7 (congrArg (fun q => q) y4) rfl
  have z7 : n7 = 0 := own_addeq z7 (congrArg (fun q => q) z4) rfl
  obtain ⟨r8, rfl, N7q, hr_r8, e7⟩ := hQ7
  have N7 : Fr n0 L7 := by rw [l7]; exact Fr.app N4 N7q
  refine own_go (fun _ k => st7 _ k) ?_
  show own_Go _ _ _ _ T7 (mkF m 17 #[.val (.ref a_1)] [(.int r8), (.int ((31 : Int32) * r5))])
  refine own_go (fun _ k => XS.iadd X7.here hx rfl (hb hby own_d4_17) rfl k) ?_
  show own_Go _ _ _ _ T7 (mkF m 18 #[.val (.ref a_1)] [(.int (((31 : Int32) * r5) + r8))])
  obtain ⟨fs, hr, hrun, hended, hW, hsame⟩ := X7.leave (v := some (.int (((31 : Int32) * r5) + r8))) (fun h => by rw [Bd.returns] at h; cases h)
  refine ⟨_, _, retOut X7 hx Bd.returns rfl (Or.inl ⟨rfl, Or.inl rfl, _, rfl⟩) (hb hby own_d4_18) hr, hrun, hended, _, _, rfl, ?_, ⟨_, rfl⟩, hW, hsame.mono (by rw [y7]; decide) (by rw [z7]; decide)⟩
  show own_Q4 Z a_1 w_observed_a_1 w_values_a_1 h0 n0 _ T7.heap _
  rw [e7]
  exact ⟨_, rfl, N7, (by subst_vars; rfl), rfl⟩
abbrev own_h (x : Int64) : Int32 := ((x ^^^ ((x.toUInt64 >>> ((32 : Int32) &&& 0x3f).toInt64.toUInt64).toInt64)).toInt32)
theorem own_hx (x b : Int64) : own_h (x ^^^ b) = own_h x ^^^ own_h b := by
  apply Int32.toBitVec_inj.mp
  simp only [own_h]
  simp [BitVec.ushiftRight_xor_distrib, BitVec.signExtend_xor]
  ac_rfl
theorem own_xor0 {y p : Int32} (h : y = y ^^^ p) : p = 0 := by
  have h3 : y ^^^ y = y ^^^ (y ^^^ p) := by rw [← h]
  rw [← Int32.xor_assoc, Int32.xor_self, Int32.zero_xor] at h3
  exact h3.symm
theorem own_31 {y p c : Int32} (h : 31 * y + c = 31 * (y ^^^ p) + c) : p = 0 := by
  have h1 : 31 * y = 31 * (y ^^^ p) := by
    have := congrArg (· - c) h
    simpa [Int32.add_sub_cancel] using this
  have h2 : (3186588639 : Int32) * (31 * y) = 3186588639 * (31 * (y ^^^ p)) := by rw [h1]
  rw [← Int32.mul_assoc, ← Int32.mul_assoc, show (3186588639 : Int32) * 31 = 1 by decide, Int32.one_mul, Int32.one_mul] at h2
  exact own_xor0 h2
theorem own_pow (k : Int32) : own_h ((1 : Int64) <<< ((k &&& (63 : Int32)) &&& 0x3f).toInt64) ≠ 0 := by
  have h : ∀ i : Fin 64, own_h ((1 : Int64) <<< ((Int32.ofInt (i.1 : Int)) &&& 0x3f).toInt64) ≠ 0 := by decide +kernel
  have hk := c_mask k 63 6 (by decide) (by decide)
  generalize k &&& (63 : Int32) = j at *
  have := h ⟨j.toInt.toNat, by omega⟩
  have e : ((j.toInt.toNat : Nat) : Int) = j.toInt := by omega
  simp only [e, Int32.ofInt_toInt] at this
  exact this
theorem own_no1 (x y : Int64) (k : Int32) : ¬ (((31 : Int32) * own_h x) + own_h y = ((31 : Int32) * own_h (x ^^^ ((1 : Int64) <<< ((k &&& (63 : Int32)) &&& 0x3f).toInt64))) + own_h y) := fun h => by
  rw [own_hx] at h
  exact own_pow k (own_31 h)
theorem own_no2 (x y : Int64) (k : Int32) : ¬ (((31 : Int32) * own_h x) + own_h y = ((31 : Int32) * own_h x) + own_h (y ^^^ ((1 : Int64) <<< ((k &&& (63 : Int32)) &&& 0x3f).toInt64))) := fun h => by
  rw [own_hx] at h
  have h1 := congrArg (fun q => q - (31 : Int32) * own_h x) h
  simp only [Int32.add_comm ((31 : Int32) * own_h x), Int32.add_sub_cancel] at h1
  exact own_pow k (own_xor0 h1)
theorem own_ef_own_rm0 (m : MethodId) (x0 : Int64) (x1 : Int64) (x2 : Int32) (x3 : Int32) : entryFrame m #[(.long x0), (.long x1), (.int x2), (.int x3)] maxLocals = mkF m 0 #[.val (.long x0), .second, .val (.long x1), .second, .val (.int x2), .val (.int x3), .unset, .unset, .unset, .unset, .unset, .unset, .unset, .unset, .unset] [] := by first | (simp [entryFrame, mkF, argsToLocals, Value.category, maxLocals]; done) | rfl
set_option maxRecDepth 65536 in
set_option maxHeartbeats 4000000 in
theorem own_t0_0 (q_1 : Int64) (q_2 : Int64) (p_3 : Int32) (v2 : Int64) (v33 : Int64) (r39 : Int32) (r44 : Int32) (r46 : Int32) (hdv2 : ((1 : Int64) <<< ((p_3 &&& (63 : Int32)) &&& 0x3f).toInt64) = v2) (hdv33 : v33 = (q_2 ^^^ v2)) (hr_r39 : r39 = (((31 : Int32) * ((q_1 ^^^ ((q_1.toUInt64 >>> ((32 : Int32) &&& 0x3f).toInt64.toUInt64).toInt64)).toInt32)) + ((q_2 ^^^ ((q_2.toUInt64 >>> ((32 : Int32) &&& 0x3f).toInt64.toUInt64).toInt64)).toInt32))) (hr_r44 : r44 = (((31 : Int32) * ((q_1 ^^^ ((q_1.toUInt64 >>> ((32 : Int32) &&& 0x3f).toInt64.toUInt64).toInt64)).toInt32)) + ((q_2 ^^^ ((q_2.toUInt64 >>> ((32 : Int32) &&& 0x3f).toInt64.toUInt64).toInt64)).toInt32))) (hr_r46 : r46 = (((31 : Int32) * ((q_1 ^^^ ((q_1.toUInt64 >>> ((32 : Int32) &&& 0x3f).toInt64.toUInt64).toInt64)).toInt32)) + ((v33 ^^^ ((v33.toUInt64 >>> ((32 : Int32) &&& 0x3f).toInt64.toUInt64).toInt64)).toInt32))) : r39 = r44 := by
  subst_vars; rfl
set_option maxRecDepth 65536 in
set_option maxHeartbeats 4000000 in
theorem own_t0_1 (q_1 : Int64) (q_2 : Int64) (p_3 : Int32) (v2 : Int64) (v33 : Int64) (r39 : Int32) (r44 : Int32) (r46 : Int32) (hdv2 : ((1 : Int64) <<< ((p_3 &&& (63 : Int32)) &&& 0x3f).toInt64) = v2) (hdv33 : v33 = (q_2 ^^^ v2)) (hr_r39 : r39 = (((31 : Int32) * ((q_1 ^^^ ((q_1.toUInt64 >>> ((32 : Int32) &&& 0x3f).toInt64.toUInt64).toInt64)).toInt32)) + ((q_2 ^^^ ((q_2.toUInt64 >>> ((32 : Int32) &&& 0x3f).toInt64.toUInt64).toInt64)).toInt32))) (hr_r44 : r44 = (((31 : Int32) * ((q_1 ^^^ ((q_1.toUInt64 >>> ((32 : Int32) &&& 0x3f).toInt64.toUInt64).toInt64)).toInt32)) + ((q_2 ^^^ ((q_2.toUInt64 >>> ((32 : Int32) &&& 0x3f).toInt64.toUInt64).toInt64)).toInt32))) (hr_r46 : r46 = (((31 : Int32) * ((q_1 ^^^ ((q_1.toUInt64 >>> ((32 : Int32) &&& 0x3f).toInt64.toUInt64).toInt64)).toInt32)) + ((v33 ^^^ ((v33.toUInt64 >>> ((32 : Int32) &&& 0x3f).toInt64.toUInt64).toInt64)).toInt32))) (hc47 : r39 = r44) : ¬ (r39 = r46) := by
  subst_vars; exact own_no2 q_1 q_2 p_3
set_option maxRecDepth 65536 in
set_option maxHeartbeats 4000000 in
theorem own_t0_2 (q_1 : Int64) (q_2 : Int64) (p_3 : Int32) (v50 : Int64) (v80 : Int64) (r87 : Int32) (r92 : Int32) (r94 : Int32) (hdv50 : ((1 : Int64) <<< ((p_3 &&& (63 : Int32)) &&& 0x3f).toInt64) = v50) (hdv80 : v80 = (q_1 ^^^ v50)) (hr_r87 : r87 = (((31 : Int32) * ((q_1 ^^^ ((q_1.toUInt64 >>> ((32 : Int32) &&& 0x3f).toInt64.toUInt64).toInt64)).toInt32)) + ((q_2 ^^^ ((q_2.toUInt64 >>> ((32 : Int32) &&& 0x3f).toInt64.toUInt64).toInt64)).toInt32))) (hr_r92 : r92 = (((31 : Int32) * ((q_1 ^^^ ((q_1.toUInt64 >>> ((32 : Int32) &&& 0x3f).toInt64.toUInt64).toInt64)).toInt32)) + ((q_2 ^^^ ((q_2.toUInt64 >>> ((32 : Int32) &&& 0x3f).toInt64.toUInt64).toInt64)).toInt32))) (hr_r94 : r94 = (((31 : Int32) * ((v80 ^^^ ((v80.toUInt64 >>> ((32 : Int32) &&& 0x3f).toInt64.toUInt64).toInt64)).toInt32)) + ((q_2 ^^^ ((q_2.toUInt64 >>> ((32 : Int32) &&& 0x3f).toInt64.toUInt64).toInt64)).toInt32))) : r87 = r92 := by
  subst_vars; rfl
set_option maxRecDepth 65536 in
set_option maxHeartbeats 4000000 in
theorem own_t0_3 (q_1 : Int64) (q_2 : Int64) (p_3 : Int32) (v50 : Int64) (v80 : Int64) (r87 : Int32) (r92 : Int32) (r94 : Int32) (hdv50 : ((1 : Int64) <<< ((p_3 &&& (63 : Int32)) &&& 0x3f).toInt64) = v50) (hdv80 : v80 = (q_1 ^^^ v50)) (hr_r87 : r87 = (((31 : Int32) * ((q_1 ^^^ ((q_1.toUInt64 >>> ((32 : Int32) &&& 0x3f).toInt64.toUInt64).toInt64)).toInt32)) + ((q_2 ^^^ ((q_2.toUInt64 >>> ((32 : Int32) &&& 0x3f).toInt64.toUInt64).toInt64)).toInt32))) (hr_r92 : r92 = (((31 : Int32) * ((q_1 ^^^ ((q_1.toUInt64 >>> ((32 : Int32) &&& 0x3f).toInt64.toUInt64).toInt64)).toInt32)) + ((q_2 ^^^ ((q_2.toUInt64 >>> ((32 : Int32) &&& 0x3f).toInt64.toUInt64).toInt64)).toInt32))) (hr_r94 : r94 = (((31 : Int32) * ((v80 ^^^ ((v80.toUInt64 >>> ((32 : Int32) &&& 0x3f).toInt64.toUInt64).toInt64)).toInt32)) + ((q_2 ^^^ ((q_2.toUInt64 >>> ((32 : Int32) &&& 0x3f).toInt64.toUInt64).toInt64)).toInt32))) (hc95 : r87 = r92) : ¬ (r87 = r94) := by
  subst_vars; exact own_no1 q_1 q_2 p_3
def own_Q0 (Z : State) (q_1 : Int64) (q_2 : Int64) (p_3 : Int32) (p_4 : Int32) (h0 : Heap) (n0 : Nat) (v : Option Value) (h : Heap) (L : List Loc) : Prop := v = some (.int (1 : Int32)) ∧ Fr n0 L
set_option maxRecDepth 65536 in
set_option maxHeartbeats 40000000 in
theorem own_rm0 (l : Launch) (Z : State) (a0 : Array Value) (hw : ∀ d ∈ tables_1, d.before a0 Z = true) (ws : List Jvm.Cond) (q_1 : Int64) (q_2 : Int64) (p_3 : Int32) (p_4 : Int32) (h0 : Heap) (n0 : Nat) (Z0 : n0 ≤ h0.size) :
    MetFree l x (head1 (Jvm.Cond.code x code maxLocals ret :: ws) room_1) (fun a U => a = #[(.long q_1), (.long q_2), (.int p_3), (.int p_4)] ∧ Z.Warmed39 U.vm ∧ U.heap = h0) (fun _ _ _ _ _ => True) (fun _ U o U' => ∃ v L, o = .returned v ∧ own_Q0 Z q_1 q_2 p_3 p_4 h0 n0 v U'.heap L ∧ FrameEnd U o U' L 3 6) := by
  refine MetFree.of_bodySF (plainFor_of_name own_pn3) hisR ?_
  intro p e s m args below meth c s₁ Bd hml0 hP hK
  obtain ⟨rfl, hZ, hh⟩ := hP
  have hx := Bd.exec
  have hby := Bd.bytes
  have hml : c.maxLocals = 15 := hml0
  have hown : s.vm.findClass "com/example/epsilonet/epsilonet/service/OutcomeHashCodePinLaw" = some m.cls := findClass_of_methodNamed Bd.named
  have hnm := (name_of_methodNamed Bd.named Bd.method).1
  have X0 : Stand p l e room_1 s m #[(.long q_1), (.long q_2), (.int p_3), (.int p_4)] below meth c s₁ [] 0 0 := Stand.of_body Bd
  have e0 : s₁.heap = h0 := by rw [← hh, Bd.state]; rfl
  have N0 := Fr.nil n0
  have z0 : n0 ≤ h0.size := Z0
  show own_Go p.tables e below (fun t o => t.status = .running ∧ Ended t below o ∧ ∃ v L, o = .returned v ∧ own_Q0 Z q_1 q_2 p_3 p_4 h0 n0 v t.heap L ∧ FrameEnd s o t L 3 6) s₁ (entryFrame m #[(.long q_1), (.long q_2), (.int p_3), (.int p_4)] maxLocals)
  rw [own_ef_own_rm0 m q_1 q_2 p_3 p_4]
  show own_Go _ _ _ _ s₁ (mkF m 0 #[.val (.long q_1), .second, .val (.long q_2), .second, .val (.int p_3), .val (.int p_4), .unset, .unset, .unset, .unset, .unset, .unset, .unset, .unset, .unset] [])
  refine own_go (fun _ k => XS.iload X0.here hx rfl (hb hby at_0) rfl k) ?_
  show own_Go _ _ _ _ s₁ (mkF m 2 #[.val (.long q_1), .second, .val (.long q_2), .second, .val (.int p_3), .val (.int p_4), .unset, .unset, .unset, .unset, .unset, .unset, .unset, .unset, .unset] [(.int p_4)])
  refine own_go (fun _ k => XS.iconst X0.here hx rfl (hb hby at_2) k) ?_
  show own_Go _ _ _ _ s₁ (mkF m 3 #[.val (.long q_1), .second, .val (.long q_2), .second, .val (.int p_3), .val (.int p_4), .unset, .unset, .unset, .unset, .unset, .unset, .unset, .unset, .unset] [(.int (1 : Int32)), (.int p_4)])
  refine own_go (fun _ k => XS.iand X0.here hx rfl (hb hby at_3) rfl k) ?_
  show own_Go _ _ _ _ s₁ (mkF m 4 #[.val (.long q_1), .second, .val (.long q_2), .second, .val (.int p_3), .val (.int p_4), .unset, .unset, .unset, .unset, .unset, .unset, .unset, .unset, .unset] [(.int (p_4 &&& (1 : Int32)))])
  by_cases hc1 : (p_4 &&& (1 : Int32)) = 0
  · refine own_go (fun _ k => XS.ifYes X0.here hx rfl (pc0 := 4) (pc' := 11) rfl (hb hby at_4) rfl (Jvm.Free.XT.i0_eq_t hc1) (by decide) (by decide) k) ?_
    show own_Go _ _ _ _ s₁ (mkF m 11 #[.val (.long q_1), .second, .val (.long q_2), .second, .val (.int p_3), .val (.int p_4), .unset, .unset, .unset, .unset, .unset, .unset, .unset, .unset, .unset] [])
    refine own_go (fun _ k => XS.iconst X0.here hx rfl (hb hby at_11) k) ?_
    show own_Go _ _ _ _ s₁ (mkF m 12 #[.val (.long q_1), .second, .val (.long q_2), .second, .val (.int p_3), .val (.int p_4), .unset, .unset, .unset, .unset, .unset, .unset, .unset, .unset, .unset] [(.int (0 : Int32))])
    refine own_go (fun _ k => XS.istore X0.here hx rfl (hb hby at_12) rfl (l' := #[.val (.long q_1), .second, .val (.long q_2), .second, .val (.int p_3), .val (.int p_4), .val (.int (0 : Int32)), .unset, .unset, .unset, .unset, .unset, .unset, .unset, .unset]) rfl k) ?_
    show own_Go _ _ _ _ s₁ (mkF m 14 #[.val (.long q_1), .second, .val (.long q_2), .second, .val (.int p_3), .val (.int p_4), .val (.int (0 : Int32)), .unset, .unset, .unset, .unset, .unset, .unset, .unset, .unset] [])
    refine own_go (fun _ k => XS.lconst X0.here hx rfl (hb hby at_14) k) ?_
    show own_Go _ _ _ _ s₁ (mkF m 15 #[.val (.long q_1), .second, .val (.long q_2), .second, .val (.int p_3), .val (.int p_4), .val (.int (0 : Int32)), .unset, .unset, .unset, .unset, .unset, .unset, .unset, .unset] [(.long (1 : Int64))])
    refine own_go (fun _ k => XS.iload X0.here hx rfl (hb hby at_15) rfl k) ?_
    show own_Go _ _ _ _ s₁ (mkF m 17 #[.val (.long q_1), .second, .val (.long q_2), .second, .val (.int p_3), .val (.int p_4), .val (.int (0 : Int32)), .unset, .unset, .unset, .unset, .unset, .unset, .unset, .unset] [(.int p_3), (.long (1 : Int64))])
    refine own_go (fun _ k => XS.bipush X0.here hx rfl (hb hby at_17) k) ?_
    show own_Go _ _ _ _ s₁ (mkF m 19 #[.val (.long q_1), .second, .val (.long q_2), .second, .val (.int p_3), .val (.int p_4), .val (.int (0 : Int32)), .unset, .unset, .unset, .unset, .unset, .unset, .unset, .unset] [(.int (63 : Int32)), (.int p_3), (.long (1 : Int64))])
    refine own_go (fun _ k => XS.iand X0.here hx rfl (hb hby at_19) rfl k) ?_
    show own_Go _ _ _ _ s₁ (mkF m 20 #[.val (.long q_1), .second, .val (.long q_2), .second, .val (.int p_3), .val (.int p_4), .val (.int (0 : Int32)), .unset, .unset, .unset, .unset, .unset, .unset, .unset, .unset] [(.int (p_3 &&& (63 : Int32))), (.long (1 : Int64))])
    refine own_go (fun _ k => XS.lshl X0.here hx rfl (hb hby at_20) rfl k) ?_
    show own_Go _ _ _ _ s₁ (mkF m 21 #[.val (.long q_1), .second, .val (.long q_2), .second, .val (.int p_3), .val (.int p_4), .val (.int (0 : Int32)), .unset, .unset, .unset, .unset, .unset, .unset, .unset, .unset] [(.long ((1 : Int64) <<< ((p_3 &&& (63 : Int32)) &&& 0x3f).toInt64))])
    refine own_go (fun _ k => XS.lstore X0.here hx rfl (hb hby at_21) rfl (l' := #[.val (.long q_1), .second, .val (.long q_2), .second, .val (.int p_3), .val (.int p_4), .val (.int (0 : Int32)), .val (.long ((1 : Int64) <<< ((p_3 &&& (63 : Int32)) &&& 0x3f).toInt64)), .second, .unset, .unset, .unset, .unset, .unset, .unset]) rfl k) ?_
    show own_Go _ _ _ _ s₁ (mkF m 23 #[.val (.long q_1), .second, .val (.long q_2), .second, .val (.int p_3), .val (.int p_4), .val (.int (0 : Int32)), .val (.long ((1 : Int64) <<< ((p_3 &&& (63 : Int32)) &&& 0x3f).toInt64)), .second, .unset, .unset, .unset, .unset, .unset, .unset] [])
    generalize hdv2 : ((1 : Int64) <<< ((p_3 &&& (63 : Int32)) &&& 0x3f).toInt64) = v2
    show own_Go _ _ _ _ s₁ (mkF m 23 #[.val (.long q_1), .second, .val (.long q_2), .second, .val (.int p_3), .val (.int p_4), .val (.int (0 : Int32)), .val (.long v2), .second, .unset, .unset, .unset, .unset, .unset, .unset] [])
    obtain ⟨T3, h3, X3, e3, E3, A3, D3, Y3, st3⟩ := newO X0 hx hZ hown (hw _ (List.mem_of_getElem? (i := 0) rfl)) (hw _ (List.mem_of_getElem? (i := 1) rfl)) (hw _ (List.mem_of_getElem? (i := 2) rfl)) e0 (g := (mkF m 23 #[.val (.long q_1), .second, .val (.long q_2), .second, .val (.int p_3), .val (.int p_4), .val (.int (0 : Int32)), .val (.long v2), .second, .unset, .unset, .unset, .unset, .unset, .unset] [])) rfl (hb hby at_23) (by decide) (by decide)
    obtain ⟨b3, g3⟩ : ∃ z, z = h0.size := ⟨_, rfl⟩
    rw [← g3] at A3 D3 Y3 st3
    have z4 := E3.1
    have lt_b3 := own_lt A3.lt
    have F_observed_b3 : Fld Z h3 b3 "com/example/epsilonet/epsilonet/service/ObservationTree$Outcome" "observed" "J" (.long (0 : Int64)) := D3 (Or.inr (hw _ (List.mem_of_getElem? (i := 15) rfl))) (ty := .long) (by decide)
    have F_values_b3 : Fld Z h3 b3 "com/example/epsilonet/epsilonet/service/ObservationTree$Outcome" "values" "J" (.long (0 : Int64)) := D3 (Or.inr (hw _ (List.mem_of_getElem? (i := 17) rfl))) (ty := .long) (by decide)
    refine own_go (fun _ k => st3 _ k) ?_
    show own_Go _ _ _ _ T3 (mkF m 26 #[.val (.long q_1), .second, .val (.long q_2), .second, .val (.int p_3), .val (.int p_4), .val (.int (0 : Int32)), .val (.long v2), .second, .unset, .unset, .unset, .unset, .unset, .unset] [(.ref b3)])
    refine own_go (fun _ k => XS.dup X3.here hx rfl (hb hby at_26) rfl rfl k) ?_
    show own_Go _ _ _ _ T3 (mkF m 27 #[.val (.long q_1), .second, .val (.long q_2), .second, .val (.int p_3), .val (.int p_4), .val (.int (0 : Int32)), .val (.long v2), .second, .unset, .unset, .unset, .unset, .unset, .unset] [(.ref b3), (.ref b3)])
    refine own_go (fun _ k => XS.lloadN X3.here hx rfl (hb hby at_27) rfl k) ?_
    show own_Go _ _ _ _ T3 (mkF m 28 #[.val (.long q_1), .second, .val (.long q_2), .second, .val (.int p_3), .val (.int p_4), .val (.int (0 : Int32)), .val (.long v2), .second, .unset, .unset, .unset, .unset, .unset, .unset] [(.long q_1), (.ref b3), (.ref b3)])
    refine own_go (fun _ k => XS.lloadN X3.here hx rfl (hb hby at_28) rfl k) ?_
    show own_Go _ _ _ _ T3 (mkF m 29 #[.val (.long q_1), .second, .val (.long q_2), .second, .val (.int p_3), .val (.int p_4), .val (.int (0 : Int32)), .val (.long v2), .second, .unset, .unset, .unset, .unset, .unset, .unset] [(.long q_2), (.long q_1), (.ref b3), (.ref b3)])
    obtain ⟨_, _, ⟨T5, L5, k5, n5⟩, -, X5, ⟨Lc5, hQ5, l5, y5, z5⟩, st5⟩ := X3.specialBack hx (y := (⟨"com/example/epsilonet/epsilonet/service/ObservationTree$Outcome", "<init>", "(JJ)V"⟩ : MethodName)) rfl hown (mvT hZ (hw _ (List.mem_of_getElem? (i := 3) rfl))) (mvT hZ (hw _ (List.mem_of_getElem? (i := 4) rfl))) (mvT hZ (hw _ (List.mem_of_getElem? (i := 5) rfl))) (by decide) (backOf (W := 1) (own_rm1 l Z a0 hw [] b3 q_1 q_2 (0 : Int64) (0 : Int64) h3 n0 (by omega) A3 F_observed_b3 F_values_b3 (by omega)) hZ (hw _ (List.mem_of_getElem? (i := 5) rfl)) (hw _ (List.mem_of_getElem? (i := 2) rfl)) (by decide) (by decide)) (g := (mkF m 29 #[.val (.long q_1), .second, .val (.long q_2), .second, .val (.int p_3), .val (.int p_4), .val (.int (0 : Int32)), .val (.long v2), .second, .unset, .unset, .unset, .unset, .unset, .unset] [(.long q_2), (.long q_1), (.ref b3), (.ref b3)])) rfl (by rw [hml]; rfl) (Steps.refl _) (a := b3) (argsL := [(.long q_1), (.long q_2)]) (rest := [(.ref b3)]) (lenOf own_pd2 rfl) rfl (by show 2 * 0 + _ ≤ _; exact Nat.le_of_eq rfl) (hb hby at_29) (fun _ _ => ⟨rfl, e3, (by decide : 1 + 0 ≤ _), (by decide : 2 + 0 ≤ _)⟩)
    dsimp only [Pt.U, Pt.locs, Pt.cells, Pt.slots] at X5 l5 y5 z5 st5 hQ5
    have y5 : k5 = 1 := y5
    have z5 : n5 = 2 := z5
    obtain ⟨rfl, N5q, K5q, f6, f7, f8⟩ := hQ5
    have N5 : Fr n0 L5 := by rw [l5]; exact Fr.app N0 N5q
    have z9 := K5q.1
    have z10 := own_lt f6.lt
    have z11 := own_lt f7.lt
    have z12 := own_lt f8.lt
    refine own_go (fun _ k => st5.trans k) ?_
    show own_Go _ _ _ _ T5 (mkF m 32 #[.val (.long q_1), .second, .val (.long q_2), .second, .val (.int p_3), .val (.int p_4), .val (.int (0 : Int32)), .val (.long v2), .second, .unset, .unset, .unset, .unset, .unset, .unset] [(.ref b3)])
    refine own_go (fun _ k => XS.astore X5.here hx rfl (hb hby at_32) rfl rfl (l' := #[.val (.long q_1), .second, .val (.long q_2), .second, .val (.int p_3), .val (.int p_4), .val (.int (0 : Int32)), .val (.long v2), .second, .val (.ref b3), .unset, .unset, .unset, .unset, .unset]) rfl k) ?_
    show own_Go _ _ _ _ T5 (mkF m 34 #[.val (.long q_1), .second, .val (.long q_2), .second, .val (.int p_3), .val (.int p_4), .val (.int (0 : Int32)), .val (.long v2), .second, .val (.ref b3), .unset, .unset, .unset, .unset, .unset] [])
    obtain ⟨T13, h13, X13, e13, E13, A13, D13, Y13, st13⟩ := newO X5 hx hZ hown (hw _ (List.mem_of_getElem? (i := 0) rfl)) (hw _ (List.mem_of_getElem? (i := 1) rfl)) (hw _ (List.mem_of_getElem? (i := 2) rfl)) rfl (g := (mkF m 34 #[.val (.long q_1), .second, .val (.long q_2), .second, .val (.int p_3), .val (.int p_4), .val (.int (0 : Int32)), .val (.long v2), .second, .val (.ref b3), .unset, .unset, .unset, .unset, .unset] [])) rfl (hb hby at_34) (by rw [y5]; decide) (by rw [z5]; decide)
    obtain ⟨b13, g13⟩ : ∃ z, z = T5.heap.size := ⟨_, rfl⟩
    rw [← g13] at A13 D13 Y13 st13
    have z14 := E13.1
    have lt_b13 := own_lt A13.lt
    have F_observed_b13 : Fld Z h13 b13 "com/example/epsilonet/epsilonet/service/ObservationTree$Outcome" "observed" "J" (.long (0 : Int64)) := D13 (Or.inr (hw _ (List.mem_of_getElem? (i := 15) rfl))) (ty := .long) (by decide)
    have F_values_b13 : Fld Z h13 b13 "com/example/epsilonet/epsilonet/service/ObservationTree$Outcome" "values" "J" (.long (0 : Int64)) := D13 (Or.inr (hw _ (List.mem_of_getElem? (i := 17) rfl))) (ty := .long) (by decide)
    refine own_go (fun _ k => st13 _ k) ?_
    show own_Go _ _ _ _ T13 (mkF m 37 #[.val (.long q_1), .second, .val (.long q_2), .second, .val (.int p_3), .val (.int p_4), .val (.int (0 : Int32)), .val (.long v2), .second, .val (.ref b3), .unset, .unset, .unset, .unset, .unset] [(.ref b13)])
    refine own_go (fun _ k => XS.dup X13.here hx rfl (hb hby at_37) rfl rfl k) ?_
    show own_Go _ _ _ _ T13 (mkF m 38 #[.val (.long q_1), .second, .val (.long q_2), .second, .val (.int p_3), .val (.int p_4), .val (.int (0 : Int32)), .val (.long v2), .second, .val (.ref b3), .unset, .unset, .unset, .unset, .unset] [(.ref b13), (.ref b13)])
    refine own_go (fun _ k => XS.lloadN X13.here hx rfl (hb hby at_38) rfl k) ?_
    show own_Go _ _ _ _ T13 (mkF m 39 #[.val (.long q_1), .second, .val (.long q_2), .second, .val (.int p_3), .val (.int p_4), .val (.int (0 : Int32)), .val (.long v2), .second, .val (.ref b3), .unset, .unset, .unset, .unset, .unset] [(.long q_1), (.ref b13), (.ref b13)])
    refine own_go (fun _ k => XS.lloadN X13.here hx rfl (hb hby at_39) rfl k) ?_
    show own_Go _ _ _ _ T13 (mkF m 40 #[.val (.long q_1), .second, .val (.long q_2), .second, .val (.int p_3), .val (.int p_4), .val (.int (0 : Int32)), .val (.long v2), .second, .val (.ref b3), .unset, .unset, .unset, .unset, .unset] [(.long q_2), (.long q_1), (.ref b13), (.ref b13)])
    obtain ⟨_, _, ⟨T15, L15, k15, n15⟩, -, X15, ⟨Lc15, hQ15, l15, y15, z15⟩, st15⟩ := X13.specialBack hx (y := (⟨"com/example/epsilonet/epsilonet/service/ObservationTree$Outcome", "<init>", "(JJ)V"⟩ : MethodName)) rfl hown (mvT hZ (hw _ (List.mem_of_getElem? (i := 3) rfl))) (mvT hZ (hw _ (List.mem_of_getElem? (i := 4) rfl))) (mvT hZ (hw _ (List.mem_of_getElem? (i := 5) rfl))) (by decide) (backOf (W := 1) (own_rm1 l Z a0 hw [] b13 q_1 q_2 (0 : Int64) (0 : Int64) h13 n0 (by omega) A13 F_observed_b13 F_values_b13 (by omega)) hZ (hw _ (List.mem_of_getElem? (i := 5) rfl)) (hw _ (List.mem_of_getElem? (i := 2) rfl)) (by decide) (by decide)) (g := (mkF m 40 #[.val (.long q_1), .second, .val (.long q_2), .second, .val (.int p_3), .val (.int p_4), .val (.int (0 : Int32)), .val (.long v2), .second, .val (.ref b3), .unset, .unset, .unset, .unset, .unset] [(.long q_2), (.long q_1), (.ref b13), (.ref b13)])) rfl (by rw [hml]; rfl) (Steps.refl _) (a := b13) (argsL := [(.long q_1), (.long q_2)]) (rest := [(.ref b13)]) (lenOf own_pd2 rfl) rfl (by show 2 * 0 + _ ≤ _; exact Nat.le_of_eq rfl) (hb hby at_40) (fun _ _ => ⟨rfl, e13, (by show k5 + 1 + _ ≤ _; rw [y5]; decide), (by show n5 + 2 + _ ≤ _; rw [z5]; decide)⟩)
    dsimp only [Pt.U, Pt.locs, Pt.cells, Pt.slots] at X15 l15 y15 z15 st15 hQ15
    have y15 : k15 = 2 := own_addeq y15 (congrArg (fun q => q + 1) y5) rfl
    have z15 : n15 = 4 := own_addeq z15 (congrArg (fun q => q + 2) z5) rfl
    obtain ⟨rfl, N15q, K15q, f16, f17, f18⟩ := hQ15
    have N15 : Fr n0 L15 := by rw [l15]; exact Fr.app N5 N15q
    have z19 := K15q.1
    have z20 := own_lt f16.lt
    have z21 := own_lt f17.lt
    have z22 := own_lt f18.lt
    refine own_go (fun _ k => st15.trans k) ?_
    show own_Go _ _ _ _ T15 (mkF m 43 #[.val (.long q_1), .second, .val (.long q_2), .second, .val (.int p_3), .val (.int p_4), .val (.int (0 : Int32)), .val (.long v2), .second, .val (.ref b3), .unset, .unset, .unset, .unset, .unset] [(.ref b13)])
    refine own_go (fun _ k => XS.astore X15.here hx rfl (hb hby at_43) rfl rfl (l' := #[.val (.long q_1), .second, .val (.long q_2), .second, .val (.int p_3), .val (.int p_4), .val (.int (0 : Int32)), .val (.long v2), .second, .val (.ref b3), .val (.ref b13), .unset, .unset, .unset, .unset]) rfl k) ?_
    show own_Go _ _ _ _ T15 (mkF m 45 #[.val (.long q_1), .second, .val (.long q_2), .second, .val (.int p_3), .val (.int p_4), .val (.int (0 : Int32)), .val (.long v2), .second, .val (.ref b3), .val (.ref b13), .unset, .unset, .unset, .unset] [])
    refine own_go (fun _ k => XS.iload X15.here hx rfl (hb hby at_45) rfl k) ?_
    show own_Go _ _ _ _ T15 (mkF m 47 #[.val (.long q_1), .second, .val (.long q_2), .second, .val (.int p_3), .val (.int p_4), .val (.int (0 : Int32)), .val (.long v2), .second, .val (.ref b3), .val (.ref b13), .unset, .unset, .unset, .unset] [(.int (0 : Int32))])
    have hc23 : (0 : Int32) = 0 := by decide
    refine own_go (fun _ k => XS.ifYes X15.here hx rfl (pc0 := 47) (pc' := 65) rfl (hb hby at_47) rfl (Jvm.Free.XT.i0_eq_t hc23) (by decide) (by decide) k) ?_
    show own_Go _ _ _ _ T15 (mkF m 65 #[.val (.long q_1), .second, .val (.long q_2), .second, .val (.int p_3), .val (.int p_4), .val (.int (0 : Int32)), .val (.long v2), .second, .val (.ref b3), .val (.ref b13), .unset, .unset, .unset, .unset] [])
    obtain ⟨T24, h24, X24, e24, E24, A24, D24, Y24, st24⟩ := newO X15 hx hZ hown (hw _ (List.mem_of_getElem? (i := 0) rfl)) (hw _ (List.mem_of_getElem? (i := 1) rfl)) (hw _ (List.mem_of_getElem? (i := 2) rfl)) rfl (g := (mkF m 65 #[.val (.long q_1), .second, .val (.long q_2), .second, .val (.int p_3), .val (.int p_4), .val (.int (0 : Int32)), .val (.long v2), .second, .val (.ref b3), .val (.ref b13), .unset, .unset, .unset, .unset] [])) rfl (hb hby at_65) (by rw [y15]; decide) (by rw [z15]; decide)
    obtain ⟨b24, g24⟩ : ∃ z, z = T15.heap.size := ⟨_, rfl⟩
    rw [← g24] at A24 D24 Y24 st24
    have z25 := E24.1
    have lt_b24 := own_lt A24.lt
    have F_observed_b24 : Fld Z h24 b24 "com/example/epsilonet/epsilonet/service/ObservationTree$Outcome" "observed" "J" (.long (0 : Int64)) := D24 (Or.inr (hw _ (List.mem_of_getElem? (i := 15) rfl))) (ty := .long) (by decide)
    have F_values_b24 : Fld Z h24 b24 "com/example/epsilonet/epsilonet/service/ObservationTree$Outcome" "values" "J" (.long (0 : Int64)) := D24 (Or.inr (hw _ (List.mem_of_getElem? (i := 17) rfl))) (ty := .long) (by decide)
    refine own_go (fun _ k => st24 _ k) ?_
    show own_Go _ _ _ _ T24 (mkF m 68 #[.val (.long q_1), .second, .val (.long q_2), .second, .val (.int p_3), .val (.int p_4), .val (.int (0 : Int32)), .val (.long v2), .second, .val (.ref b3), .val (.ref b13), .unset, .unset, .unset, .unset] [(.ref b24)])
    refine own_go (fun _ k => XS.dup X24.here hx rfl (hb hby at_68) rfl rfl k) ?_
    show own_Go _ _ _ _ T24 (mkF m 69 #[.val (.long q_1), .second, .val (.long q_2), .second, .val (.int p_3), .val (.int p_4), .val (.int (0 : Int32)), .val (.long v2), .second, .val (.ref b3), .val (.ref b13), .unset, .unset, .unset, .unset] [(.ref b24), (.ref b24)])
    refine own_go (fun _ k => XS.lloadN X24.here hx rfl (hb hby at_69) rfl k) ?_
    show own_Go _ _ _ _ T24 (mkF m 70 #[.val (.long q_1), .second, .val (.long q_2), .second, .val (.int p_3), .val (.int p_4), .val (.int (0 : Int32)), .val (.long v2), .second, .val (.ref b3), .val (.ref b13), .unset, .unset, .unset, .unset] [(.long q_1), (.ref b24), (.ref b24)])
    refine own_go (fun _ k => XS.lloadN X24.here hx rfl (hb hby at_70) rfl k) ?_
    show own_Go _ _ _ _ T24 (mkF m 71 #[.val (.long q_1), .second, .val (.long q_2), .second, .val (.int p_3), .val (.int p_4), .val (.int (0 : Int32)), .val (.long v2), .second, .val (.ref b3), .val (.ref b13), .unset, .unset, .unset, .unset] [(.long q_2), (.long q_1), (.ref b24), (.ref b24)])
    refine own_go (fun _ k => XS.lload X24.here hx rfl (hb hby at_71) rfl k) ?_
    show own_Go _ _ _ _ T24 (mkF m 73 #[.val (.long q_1), .second, .val (.long q_2), .second, .val (.int p_3), .val (.int p_4), .val (.int (0 : Int32)), .val (.long v2), .second, .val (.ref b3), .val (.ref b13), .unset, .unset, .unset, .unset] [(.long v2), (.long q_2), (.long q_1), (.ref b24), (.ref b24)])
    refine own_go (fun _ k => XS.lxor X24.here hx rfl (hb hby at_73) rfl k) ?_
    show own_Go _ _ _ _ T24 (mkF m 74 #[.val (.long q_1), .second, .val (.long q_2), .second, .val (.int p_3), .val (.int p_4), .val (.int (0 : Int32)), .val (.long v2), .second, .val (.ref b3), .val (.ref b13), .unset, .unset, .unset, .unset] [(.long (q_2 ^^^ v2)), (.long q_1), (.ref b24), (.ref b24)])
    obtain ⟨_, _, ⟨T26, L26, k26, n26⟩, -, X26, ⟨Lc26, hQ26, l26, y26, z26⟩, st26⟩ := X24.specialBack hx (y := (⟨"com/example/epsilonet/epsilonet/service/ObservationTree$Outcome", "<init>", "(JJ)V"⟩ : MethodName)) rfl hown (mvT hZ (hw _ (List.mem_of_getElem? (i := 3) rfl))) (mvT hZ (hw _ (List.mem_of_getElem? (i := 4) rfl))) (mvT hZ (hw _ (List.mem_of_getElem? (i := 5) rfl))) (by decide) (backOf (W := 1) (own_rm1 l Z a0 hw [] b24 q_1 (q_2 ^^^ v2) (0 : Int64) (0 : Int64) h24 n0 (by omega) A24 F_observed_b24 F_values_b24 (by omega)) hZ (hw _ (List.mem_of_getElem? (i := 5) rfl)) (hw _ (List.mem_of_getElem? (i := 2) rfl)) (by decide) (by decide)) (g := (mkF m 74 #[.val (.long q_1), .second, .val (.long q_2), .second, .val (.int p_3), .val (.int p_4), .val (.int (0 : Int32)), .val (.long v2), .second, .val (.ref b3), .val (.ref b13), .unset, .unset, .unset, .unset] [(.long (q_2 ^^^ v2)), (.long q_1), (.ref b24), (.ref b24)])) rfl (by rw [hml]; rfl) (Steps.refl _) (a := b24) (argsL := [(.long q_1), (.long (q_2 ^^^ v2))]) (rest := [(.ref b24)]) (lenOf own_pd2 rfl) rfl (by show 2 * 0 + _ ≤ _; exact Nat.le_of_eq rfl) (hb hby at_74) (fun _ _ => ⟨rfl, e24, (by show k15 + 1 + _ ≤ _; rw [y15]; decide), (by show n15 + 2 + _ ≤ _; rw [z15]; decide)⟩)
    dsimp only [Pt.U, Pt.locs, Pt.cells, Pt.slots] at X26 l26 y26 z26 st26 hQ26
    have y26 : k26 = 3 := own_addeq y26 (congrArg (fun q => q + 1) y15) rfl
    have z26 : n26 = 6 := own_addeq z26 (congrArg (fun q => q + 2) z15) rfl
    obtain ⟨rfl, N26q, K26q, f27, f28, f29⟩ := hQ26
    have N26 : Fr n0 L26 := by rw [l26]; exact Fr.app N15 N26q
    have z30 := K26q.1
    have z31 := own_lt f27.lt
    have z32 := own_lt f28.lt
    obtain ⟨v33, hdv33⟩ : ∃ z : Int64, z = (q_2 ^^^ v2) := ⟨_, rfl⟩
    rw [← hdv33] at f29
    have z34 := own_lt f29.lt
    refine own_go (fun _ k => st26.trans k) ?_
    show own_Go _ _ _ _ T26 (mkF m 77 #[.val (.long q_1), .second, .val (.long q_2), .second, .val (.int p_3), .val (.int p_4), .val (.int (0 : Int32)), .val (.long v2), .second, .val (.ref b3), .val (.ref b13), .unset, .unset, .unset, .unset] [(.ref b24)])
    refine own_go (fun _ k => XS.astore X26.here hx rfl (hb hby at_77) rfl rfl (l' := #[.val (.long q_1), .second, .val (.long q_2), .second, .val (.int p_3), .val (.int p_4), .val (.int (0 : Int32)), .val (.long v2), .second, .val (.ref b3), .val (.ref b13), .val (.ref b24), .unset, .unset, .unset]) rfl k) ?_
    show own_Go _ _ _ _ T26 (mkF m 79 #[.val (.long q_1), .second, .val (.long q_2), .second, .val (.int p_3), .val (.int p_4), .val (.int (0 : Int32)), .val (.long v2), .second, .val (.ref b3), .val (.ref b13), .val (.ref b24), .unset, .unset, .unset] [])
    refine own_go (fun _ k => XS.aload X26.here hx rfl (hb hby at_79) rfl rfl k) ?_
    show own_Go _ _ _ _ T26 (mkF m 81 #[.val (.long q_1), .second, .val (.long q_2), .second, .val (.int p_3), .val (.int p_4), .val (.int (0 : Int32)), .val (.long v2), .second, .val (.ref b3), .val (.ref b13), .val (.ref b24), .unset, .unset, .unset] [(.ref b3)])
    have f35 : Fld Z T26.heap b3 "com/example/epsilonet/epsilonet/service/ObservationTree$Outcome" "observed" "J" (.long q_1) := ((((f7.ext E13).keep K15q (ninS (own_ne (by omega)) nin0)).ext E24).keep K26q (ninS (own_ne (by omega)) nin0))
    have f36 : Fld Z T26.heap b3 "com/example/epsilonet/epsilonet/service/ObservationTree$Outcome" "values" "J" (.long q_2) := ((((f8.ext E13).keep K15q (ninS (own_ne (by omega)) nin0)).ext E24).keep K26q (ninS (own_ne (by omega)) nin0))
    have f38 : Exa Z T26.heap b3 "com/example/epsilonet/epsilonet/service/ObservationTree$Outcome" := ((((f6.ext E13).keep K15q).ext E24).keep K26q)
    obtain ⟨cq37, kq37, q37a, q37b, q37c⟩ := isOf hZ rfl f38
    obtain ⟨_, _, ⟨T37, L37, k37, n37⟩, -, X37, ⟨Lc37, hQ37, l37, y37, z37⟩, st37⟩ := X26.virtualBack hx (y := (⟨"com/example/epsilonet/epsilonet/service/ObservationTree$Outcome", "hashCode", "()I"⟩ : MethodName)) (z := (⟨"com/example/epsilonet/epsilonet/service/ObservationTree$Outcome", "hashCode", "()I"⟩ : MethodName)) hown (mvT hZ (hw _ (List.mem_of_getElem? (i := 18) rfl))) (mvT hZ (hw _ (List.mem_of_getElem? (i := 19) rfl))) (notFace_of_selects (args := #[]) (mvT hZ (hw _ (List.mem_of_getElem? (i := 21) rfl)))) (mvT hZ (hw _ (List.mem_of_getElem? (i := 21) rfl))) (mvT hZ (hw _ (List.mem_of_getElem? (i := 20) rfl))) (by decide) (backOf (W := 0) (own_rm4 l Z a0 hw [] b3 q_1 q_2 T26.heap n0 (by omega) f35 f36) hZ (hw _ (List.mem_of_getElem? (i := 22) rfl)) (hw _ (List.mem_of_getElem? (i := 2) rfl)) (by decide) (by decide)) q37a q37c (g := (mkF m 81 #[.val (.long q_1), .second, .val (.long q_2), .second, .val (.int p_3), .val (.int p_4), .val (.int (0 : Int32)), .val (.long v2), .second, .val (.ref b3), .val (.ref b13), .val (.ref b24), .unset, .unset, .unset] [(.ref b3)])) rfl (by rw [hml]; rfl) (Steps.refl _) (argsL := []) (rest := []) (lenOf own_pd3 rfl) rfl (by show 2 * 0 + _ ≤ _; exact Nat.le_of_eq rfl) (hb hby at_81) (fun _ _ => ⟨rfl, rfl, (by show k26 + _ ≤ _; rw [y26]; decide), (by show n26 + _ ≤ _; rw [z26]; decide)⟩)
    dsimp only [Pt.U, Pt.locs, Pt.cells, Pt.slots] at X37 l37 y37 z37 st37 hQ37
    have y37 : k37 = 3 := own_addeq y37 (congrArg (fun q => q) y26) rfl
    have z37 : n37 = 6 := own_addeq z37 (congrArg (fun q => q) z26) rfl
    obtain ⟨r39, rfl, N37q, hr_r39, e37⟩ := hQ37
    have N37 : Fr n0 L37 := by rw [l37]; exact Fr.app N26 N37q
    refine own_go (fun _ k => st37.trans k) ?_
    show own_Go _ _ _ _ T37 (mkF m 84 #[.val (.long q_1), .second, .val (.long q_2), .second, .val (.int p_3), .val (.int p_4), .val (.int (0 : Int32)), .val (.long v2), .second, .val (.ref b3), .val (.ref b13), .val (.ref b24), .unset, .unset, .unset] [(.int r39)])
    refine own_go (fun _ k => XS.istore X37.here hx rfl (hb hby at_84) rfl (l' := #[.val (.long q_1), .second, .val (.long q_2), .second, .val (.int p_3), .val (.int p_4), .val (.int (0 : Int32)), .val (.long v2), .second, .val (.ref b3), .val (.ref b13), .val (.ref b24), .val (.int r39), .unset, .unset]) rfl k) ?_
    show own_Go _ _ _ _ T37 (mkF m 86 #[.val (.long q_1), .second, .val (.long q_2), .second, .val (.int p_3), .val (.int p_4), .val (.int (0 : Int32)), .val (.long v2), .second, .val (.ref b3), .val (.ref b13), .val (.ref b24), .val (.int r39), .unset, .unset] [])
    refine own_go (fun _ k => XS.aload X37.here hx rfl (hb hby at_86) rfl rfl k) ?_
    show own_Go _ _ _ _ T37 (mkF m 88 #[.val (.long q_1), .second, .val (.long q_2), .second, .val (.int p_3), .val (.int p_4), .val (.int (0 : Int32)), .val (.long v2), .second, .val (.ref b3), .val (.ref b13), .val (.ref b24), .val (.int r39), .unset, .unset] [(.ref b13)])
    have f40 : Fld Z T26.heap b13 "com/example/epsilonet/epsilonet/service/ObservationTree$Outcome" "observed" "J" (.long q_1) := ((f17.ext E24).keep K26q (ninS (own_ne (by omega)) nin0))
    have f41 : Fld Z T26.heap b13 "com/example/epsilonet/epsilonet/service/ObservationTree$Outcome" "values" "J" (.long q_2) := ((f18.ext E24).keep K26q (ninS (own_ne (by omega)) nin0))
    have f43 : Exa Z T26.heap b13 "com/example/epsilonet/epsilonet/service/ObservationTree$Outcome" := ((f16.ext E24).keep K26q)
    obtain ⟨cq42, kq42, q42a, q42b, q42c⟩ := isOf hZ e37 f43
    obtain ⟨_, _, ⟨T42, L42, k42, n42⟩, -, X42, ⟨Lc42, hQ42, l42, y42, z42⟩, st42⟩ := X37.virtualBack hx (y := (⟨"com/example/epsilonet/epsilonet/service/ObservationTree$Outcome", "hashCode", "()I"⟩ : MethodName)) (z := (⟨"com/example/epsilonet/epsilonet/service/ObservationTree$Outcome", "hashCode", "()I"⟩ : MethodName)) hown (mvT hZ (hw _ (List.mem_of_getElem? (i := 18) rfl))) (mvT hZ (hw _ (List.mem_of_getElem? (i := 19) rfl))) (notFace_of_selects (args := #[]) (mvT hZ (hw _ (List.mem_of_getElem? (i := 21) rfl)))) (mvT hZ (hw _ (List.mem_of_getElem? (i := 21) rfl))) (mvT hZ (hw _ (List.mem_of_getElem? (i := 20) rfl))) (by decide) (backOf (W := 0) (own_rm4 l Z a0 hw [] b13 q_1 q_2 T26.heap n0 (by omega) f40 f41) hZ (hw _ (List.mem_of_getElem? (i := 22) rfl)) (hw _ (List.mem_of_getElem? (i := 2) rfl)) (by decide) (by decide)) q42a q42c (g := (mkF m 88 #[.val (.long q_1), .second, .val (.long q_2), .second, .val (.int p_3), .val (.int p_4), .val (.int (0 : Int32)), .val (.long v2), .second, .val (.ref b3), .val (.ref b13), .val (.ref b24), .val (.int r39), .unset, .unset] [(.ref b13)])) rfl (by rw [hml]; rfl) (Steps.refl _) (argsL := []) (rest := []) (lenOf own_pd3 rfl) rfl (by show 2 * 0 + _ ≤ _; exact Nat.le_of_eq rfl) (hb hby at_88) (fun _ _ => ⟨rfl, e37, (by show k37 + _ ≤ _; rw [y37]; decide), (by show n37 + _ ≤ _; rw [z37]; decide)⟩)
    dsimp only [Pt.U, Pt.locs, Pt.cells, Pt.slots] at X42 l42 y42 z42 st42 hQ42
    have y42 : k42 = 3 := own_addeq y42 (congrArg (fun q => q) y37) rfl
    have z42 : n42 = 6 := own_addeq z42 (congrArg (fun q => q) z37) rfl
    obtain ⟨r44, rfl, N42q, hr_r44, e42⟩ := hQ42
    have N42 : Fr n0 L42 := by rw [l42]; exact Fr.app N37 N42q
    refine own_go (fun _ k => st42.trans k) ?_
    show own_Go _ _ _ _ T42 (mkF m 91 #[.val (.long q_1), .second, .val (.long q_2), .second, .val (.int p_3), .val (.int p_4), .val (.int (0 : Int32)), .val (.long v2), .second, .val (.ref b3), .val (.ref b13), .val (.ref b24), .val (.int r39), .unset, .unset] [(.int r44)])
    refine own_go (fun _ k => XS.istore X42.here hx rfl (hb hby at_91) rfl (l' := #[.val (.long q_1), .second, .val (.long q_2), .second, .val (.int p_3), .val (.int p_4), .val (.int (0 : Int32)), .val (.long v2), .second, .val (.ref b3), .val (.ref b13), .val (.ref b24), .val (.int r39), .val (.int r44), .unset]) rfl k) ?_
    show own_Go _ _ _ _ T42 (mkF m 93 #[.val (.long q_1), .second, .val (.long q_2), .second, .val (.int p_3), .val (.int p_4), .val (.int (0 : Int32)), .val (.long v2), .second, .val (.ref b3), .val (.ref b13), .val (.ref b24), .val (.int r39), .val (.int r44), .unset] [])
    refine own_go (fun _ k => XS.aload X42.here hx rfl (hb hby at_93) rfl rfl k) ?_
    show own_Go _ _ _ _ T42 (mkF m 95 #[.val (.long q_1), .second, .val (.long q_2), .second, .val (.int p_3), .val (.int p_4), .val (.int (0 : Int32)), .val (.long v2), .second, .val (.ref b3), .val (.ref b13), .val (.ref b24), .val (.int r39), .val (.int r44), .unset] [(.ref b24)])
    obtain ⟨cq45, kq45, q45a, q45b, q45c⟩ := isOf hZ e42 f27
    obtain ⟨_, _, ⟨T45, L45, k45, n45⟩, -, X45, ⟨Lc45, hQ45, l45, y45, z45⟩, st45⟩ := X42.virtualBack hx (y := (⟨"com/example/epsilonet/epsilonet/service/ObservationTree$Outcome", "hashCode", "()I"⟩ : MethodName)) (z := (⟨"com/example/epsilonet/epsilonet/service/ObservationTree$Outcome", "hashCode", "()I"⟩ : MethodName)) hown (mvT hZ (hw _ (List.mem_of_getElem? (i := 18) rfl))) (mvT hZ (hw _ (List.mem_of_getElem? (i := 19) rfl))) (notFace_of_selects (args := #[]) (mvT hZ (hw _ (List.mem_of_getElem? (i := 21) rfl)))) (mvT hZ (hw _ (List.mem_of_getElem? (i := 21) rfl))) (mvT hZ (hw _ (List.mem_of_getElem? (i := 20) rfl))) (by decide) (backOf (W := 0) (own_rm4 l Z a0 hw [] b24 q_1 v33 T26.heap n0 (by omega) f28 f29) hZ (hw _ (List.mem_of_getElem? (i := 22) rfl)) (hw _ (List.mem_of_getElem? (i := 2) rfl)) (by decide) (by decide)) q45a q45c (g := (mkF m 95 #[.val (.long q_1), .second, .val (.long q_2), .second, .val (.int p_3), .val (.int p_4), .val (.int (0 : Int32)), .val (.long v2), .second, .val (.ref b3), .val (.ref b13), .val (.ref b24), .val (.int r39), .val (.int r44), .unset] [(.ref b24)])) rfl (by rw [hml]; rfl) (Steps.refl _) (argsL := []) (rest := []) (lenOf own_pd3 rfl) rfl (by show 2 * 0 + _ ≤ _; exact Nat.le_of_eq rfl) (hb hby at_95) (fun _ _ => ⟨rfl, e42, (by show k42 + _ ≤ _; rw [y42]; decide), (by show n42 + _ ≤ _; rw [z42]; decide)⟩)
    dsimp only [Pt.U, Pt.locs, Pt.cells, Pt.slots] at X45 l45 y45 z45 st45 hQ45
    have y45 : k45 = 3 := own_addeq y45 (congrArg (fun q => q) y42) rfl
    have z45 : n45 = 6 := own_addeq z45 (congrArg (fun q => q) z42) rfl
    obtain ⟨r46, rfl, N45q, hr_r46, e45⟩ := hQ45
    have N45 : Fr n0 L45 := by rw [l45]; exact Fr.app N42 N45q
    refine own_go (fun _ k => st45.trans k) ?_
    show own_Go _ _ _ _ T45 (mkF m 98 #[.val (.long q_1), .second, .val (.long q_2), .second, .val (.int p_3), .val (.int p_4), .val (.int (0 : Int32)), .val (.long v2), .second, .val (.ref b3), .val (.ref b13), .val (.ref b24), .val (.int r39), .val (.int r44), .unset] [(.int r46)])
    refine own_go (fun _ k => XS.istore X45.here hx rfl (hb hby at_98) rfl (l' := #[.val (.long q_1), .second, .val (.long q_2), .second, .val (.int p_3), .val (.int p_4), .val (.int (0 : Int32)), .val (.long v2), .second, .val (.ref b3), .val (.ref b13), .val (.ref b24), .val (.int r39), .val (.int r44), .val (.int r46)]) rfl k) ?_
    show own_Go _ _ _ _ T45 (mkF m 100 #[.val (.long q_1), .second, .val (.long q_2), .second, .val (.int p_3), .val (.int p_4), .val (.int (0 : Int32)), .val (.long v2), .second, .val (.ref b3), .val (.ref b13), .val (.ref b24), .val (.int r39), .val (.int r44), .val (.int r46)] [])
    refine own_go (fun _ k => XS.iload X45.here hx rfl (hb hby at_100) rfl k) ?_
    show own_Go _ _ _ _ T45 (mkF m 102 #[.val (.long q_1), .second, .val (.long q_2), .second, .val (.int p_3), .val (.int p_4), .val (.int (0 : Int32)), .val (.long v2), .second, .val (.ref b3), .val (.ref b13), .val (.ref b24), .val (.int r39), .val (.int r44), .val (.int r46)] [(.int r39)])
    refine own_go (fun _ k => XS.iload X45.here hx rfl (hb hby at_102) rfl k) ?_
    show own_Go _ _ _ _ T45 (mkF m 104 #[.val (.long q_1), .second, .val (.long q_2), .second, .val (.int p_3), .val (.int p_4), .val (.int (0 : Int32)), .val (.long v2), .second, .val (.ref b3), .val (.ref b13), .val (.ref b24), .val (.int r39), .val (.int r44), .val (.int r46)] [(.int r44), (.int r39)])
    have hc47 : r39 = r44 := own_t0_0 q_1 q_2 p_3 v2 v33 r39 r44 r46 hdv2 hdv33 hr_r39 hr_r44 hr_r46
    refine own_go (fun _ k => XS.icmpNo X45.here hx rfl (hb hby at_104) rfl (Jvm.Free.XT.ii_ne_f hc47) k) ?_
    show own_Go _ _ _ _ T45 (mkF m 107 #[.val (.long q_1), .second, .val (.long q_2), .second, .val (.int p_3), .val (.int p_4), .val (.int (0 : Int32)), .val (.long v2), .second, .val (.ref b3), .val (.ref b13), .val (.ref b24), .val (.int r39), .val (.int r44), .val (.int r46)] [])
    refine own_go (fun _ k => XS.iload X45.here hx rfl (hb hby at_107) rfl k) ?_
    show own_Go _ _ _ _ T45 (mkF m 109 #[.val (.long q_1), .second, .val (.long q_2), .second, .val (.int p_3), .val (.int p_4), .val (.int (0 : Int32)), .val (.long v2), .second, .val (.ref b3), .val (.ref b13), .val (.ref b24), .val (.int r39), .val (.int r44), .val (.int r46)] [(.int r39)])
    refine own_go (fun _ k => XS.iload X45.here hx rfl (hb hby at_109) rfl k) ?_
    show own_Go _ _ _ _ T45 (mkF m 111 #[.val (.long q_1), .second, .val (.long q_2), .second, .val (.int p_3), .val (.int p_4), .val (.int (0 : Int32)), .val (.long v2), .second, .val (.ref b3), .val (.ref b13), .val (.ref b24), .val (.int r39), .val (.int r44), .val (.int r46)] [(.int r46), (.int r39)])
    have hc48 : ¬ (r39 = r46) := own_t0_1 q_1 q_2 p_3 v2 v33 r39 r44 r46 hdv2 hdv33 hr_r39 hr_r44 hr_r46 hc47
    refine own_go (fun _ k => XS.icmpNo X45.here hx rfl (hb hby at_111) rfl (Jvm.Free.XT.ii_eq_f hc48) k) ?_
    show own_Go _ _ _ _ T45 (mkF m 114 #[.val (.long q_1), .second, .val (.long q_2), .second, .val (.int p_3), .val (.int p_4), .val (.int (0 : Int32)), .val (.long v2), .second, .val (.ref b3), .val (.ref b13), .val (.ref b24), .val (.int r39), .val (.int r44), .val (.int r46)] [])
    refine own_go (fun _ k => XS.iconst X45.here hx rfl (hb hby at_114) k) ?_
    show own_Go _ _ _ _ T45 (mkF m 115 #[.val (.long q_1), .second, .val (.long q_2), .second, .val (.int p_3), .val (.int p_4), .val (.int (0 : Int32)), .val (.long v2), .second, .val (.ref b3), .val (.ref b13), .val (.ref b24), .val (.int r39), .val (.int r44), .val (.int r46)] [(.int (1 : Int32))])
    refine own_go (fun _ k => XS.goto X45.here hx rfl (pc0 := 115) (pc' := 119) rfl (hb hby at_115) (by decide) (by decide) k) ?_
    show own_Go _ _ _ _ T45 (mkF m 119 #[.val (.long q_1), .second, .val (.long q_2), .second, .val (.int p_3), .val (.int p_4), .val (.int (0 : Int32)), .val (.long v2), .second, .val (.ref b3), .val (.ref b13), .val (.ref b24), .val (.int r39), .val (.int r44), .val (.int r46)] [(.int (1 : Int32))])
    obtain ⟨fs, hr, hrun, hended, hW, hsame⟩ := X45.leave (v := some (.int (1 : Int32))) (fun h => by rw [Bd.returns] at h; cases h)
    refine ⟨_, _, retOut X45 hx Bd.returns rfl (Or.inl ⟨rfl, Or.inr (Or.inl rfl), _, rfl⟩) (hb hby at_119) hr, hrun, hended, _, _, rfl, ?_, ⟨_, rfl⟩, hW, hsame.mono (by rw [y45]; decide) (by rw [z45]; decide)⟩
    show own_Q0 Z q_1 q_2 p_3 p_4 h0 n0 _ T45.heap _
    rw [e45]
    exact ⟨rfl, N45⟩
  · refine own_go (fun _ k => XS.ifNo X0.here hx rfl (hb hby at_4) rfl (Jvm.Free.XT.i0_eq_f hc1) k) ?_
    show own_Go _ _ _ _ s₁ (mkF m 7 #[.val (.long q_1), .second, .val (.long q_2), .second, .val (.int p_3), .val (.int p_4), .unset, .unset, .unset, .unset, .unset, .unset, .unset, .unset, .unset] [])
    refine own_go (fun _ k => XS.iconst X0.here hx rfl (hb hby at_7) k) ?_
    show own_Go _ _ _ _ s₁ (mkF m 8 #[.val (.long q_1), .second, .val (.long q_2), .second, .val (.int p_3), .val (.int p_4), .unset, .unset, .unset, .unset, .unset, .unset, .unset, .unset, .unset] [(.int (1 : Int32))])
    refine own_go (fun _ k => XS.goto X0.here hx rfl (pc0 := 8) (pc' := 12) rfl (hb hby at_8) (by decide) (by decide) k) ?_
    show own_Go _ _ _ _ s₁ (mkF m 12 #[.val (.long q_1), .second, .val (.long q_2), .second, .val (.int p_3), .val (.int p_4), .unset, .unset, .unset, .unset, .unset, .unset, .unset, .unset, .unset] [(.int (1 : Int32))])
    refine own_go (fun _ k => XS.istore X0.here hx rfl (hb hby at_12) rfl (l' := #[.val (.long q_1), .second, .val (.long q_2), .second, .val (.int p_3), .val (.int p_4), .val (.int (1 : Int32)), .unset, .unset, .unset, .unset, .unset, .unset, .unset, .unset]) rfl k) ?_
    show own_Go _ _ _ _ s₁ (mkF m 14 #[.val (.long q_1), .second, .val (.long q_2), .second, .val (.int p_3), .val (.int p_4), .val (.int (1 : Int32)), .unset, .unset, .unset, .unset, .unset, .unset, .unset, .unset] [])
    refine own_go (fun _ k => XS.lconst X0.here hx rfl (hb hby at_14) k) ?_
    show own_Go _ _ _ _ s₁ (mkF m 15 #[.val (.long q_1), .second, .val (.long q_2), .second, .val (.int p_3), .val (.int p_4), .val (.int (1 : Int32)), .unset, .unset, .unset, .unset, .unset, .unset, .unset, .unset] [(.long (1 : Int64))])
    refine own_go (fun _ k => XS.iload X0.here hx rfl (hb hby at_15) rfl k) ?_
    show own_Go _ _ _ _ s₁ (mkF m 17 #[.val (.long q_1), .second, .val (.long q_2), .second, .val (.int p_3), .val (.int p_4), .val (.int (1 : Int32)), .unset, .unset, .unset, .unset, .unset, .unset, .unset, .unset] [(.int p_3), (.long (1 : Int64))])
    refine own_go (fun _ k => XS.bipush X0.here hx rfl (hb hby at_17) k) ?_
    show own_Go _ _ _ _ s₁ (mkF m 19 #[.val (.long q_1), .second, .val (.long q_2), .second, .val (.int p_3), .val (.int p_4), .val (.int (1 : Int32)), .unset, .unset, .unset, .unset, .unset, .unset, .unset, .unset] [(.int (63 : Int32)), (.int p_3), (.long (1 : Int64))])
    refine own_go (fun _ k => XS.iand X0.here hx rfl (hb hby at_19) rfl k) ?_
    show own_Go _ _ _ _ s₁ (mkF m 20 #[.val (.long q_1), .second, .val (.long q_2), .second, .val (.int p_3), .val (.int p_4), .val (.int (1 : Int32)), .unset, .unset, .unset, .unset, .unset, .unset, .unset, .unset] [(.int (p_3 &&& (63 : Int32))), (.long (1 : Int64))])
    refine own_go (fun _ k => XS.lshl X0.here hx rfl (hb hby at_20) rfl k) ?_
    show own_Go _ _ _ _ s₁ (mkF m 21 #[.val (.long q_1), .second, .val (.long q_2), .second, .val (.int p_3), .val (.int p_4), .val (.int (1 : Int32)), .unset, .unset, .unset, .unset, .unset, .unset, .unset, .unset] [(.long ((1 : Int64) <<< ((p_3 &&& (63 : Int32)) &&& 0x3f).toInt64))])
    refine own_go (fun _ k => XS.lstore X0.here hx rfl (hb hby at_21) rfl (l' := #[.val (.long q_1), .second, .val (.long q_2), .second, .val (.int p_3), .val (.int p_4), .val (.int (1 : Int32)), .val (.long ((1 : Int64) <<< ((p_3 &&& (63 : Int32)) &&& 0x3f).toInt64)), .second, .unset, .unset, .unset, .unset, .unset, .unset]) rfl k) ?_
    show own_Go _ _ _ _ s₁ (mkF m 23 #[.val (.long q_1), .second, .val (.long q_2), .second, .val (.int p_3), .val (.int p_4), .val (.int (1 : Int32)), .val (.long ((1 : Int64) <<< ((p_3 &&& (63 : Int32)) &&& 0x3f).toInt64)), .second, .unset, .unset, .unset, .unset, .unset, .unset] [])
    generalize hdv50 : ((1 : Int64) <<< ((p_3 &&& (63 : Int32)) &&& 0x3f).toInt64) = v50
    show own_Go _ _ _ _ s₁ (mkF m 23 #[.val (.long q_1), .second, .val (.long q_2), .second, .val (.int p_3), .val (.int p_4), .val (.int (1 : Int32)), .val (.long v50), .second, .unset, .unset, .unset, .unset, .unset, .unset] [])
    obtain ⟨T51, h51, X51, e51, E51, A51, D51, Y51, st51⟩ := newO X0 hx hZ hown (hw _ (List.mem_of_getElem? (i := 0) rfl)) (hw _ (List.mem_of_getElem? (i := 1) rfl)) (hw _ (List.mem_of_getElem? (i := 2) rfl)) e0 (g := (mkF m 23 #[.val (.long q_1), .second, .val (.long q_2), .second, .val (.int p_3), .val (.int p_4), .val (.int (1 : Int32)), .val (.long v50), .second, .unset, .unset, .unset, .unset, .unset, .unset] [])) rfl (hb hby at_23) (by decide) (by decide)
    obtain ⟨b51, g51⟩ : ∃ z, z = h0.size := ⟨_, rfl⟩
    rw [← g51] at A51 D51 Y51 st51
    have z52 := E51.1
    have lt_b51 := own_lt A51.lt
    have F_observed_b51 : Fld Z h51 b51 "com/example/epsilonet/epsilonet/service/ObservationTree$Outcome" "observed" "J" (.long (0 : Int64)) := D51 (Or.inr (hw _ (List.mem_of_getElem? (i := 15) rfl))) (ty := .long) (by decide)
    have F_values_b51 : Fld Z h51 b51 "com/example/epsilonet/epsilonet/service/ObservationTree$Outcome" "values" "J" (.long (0 : Int64)) := D51 (Or.inr (hw _ (List.mem_of_getElem? (i := 17) rfl))) (ty := .long) (by decide)
    refine own_go (fun _ k => st51 _ k) ?_
    show own_Go _ _ _ _ T51 (mkF m 26 #[.val (.long q_1), .second, .val (.long q_2), .second, .val (.int p_3), .val (.int p_4), .val (.int (1 : Int32)), .val (.long v50), .second, .unset, .unset, .unset, .unset, .unset, .unset] [(.ref b51)])
    refine own_go (fun _ k => XS.dup X51.here hx rfl (hb hby at_26) rfl rfl k) ?_
    show own_Go _ _ _ _ T51 (mkF m 27 #[.val (.long q_1), .second, .val (.long q_2), .second, .val (.int p_3), .val (.int p_4), .val (.int (1 : Int32)), .val (.long v50), .second, .unset, .unset, .unset, .unset, .unset, .unset] [(.ref b51), (.ref b51)])
    refine own_go (fun _ k => XS.lloadN X51.here hx rfl (hb hby at_27) rfl k) ?_
    show own_Go _ _ _ _ T51 (mkF m 28 #[.val (.long q_1), .second, .val (.long q_2), .second, .val (.int p_3), .val (.int p_4), .val (.int (1 : Int32)), .val (.long v50), .second, .unset, .unset, .unset, .unset, .unset, .unset] [(.long q_1), (.ref b51), (.ref b51)])
    refine own_go (fun _ k => XS.lloadN X51.here hx rfl (hb hby at_28) rfl k) ?_
    show own_Go _ _ _ _ T51 (mkF m 29 #[.val (.long q_1), .second, .val (.long q_2), .second, .val (.int p_3), .val (.int p_4), .val (.int (1 : Int32)), .val (.long v50), .second, .unset, .unset, .unset, .unset, .unset, .unset] [(.long q_2), (.long q_1), (.ref b51), (.ref b51)])
    obtain ⟨_, _, ⟨T53, L53, k53, n53⟩, -, X53, ⟨Lc53, hQ53, l53, y53, z53⟩, st53⟩ := X51.specialBack hx (y := (⟨"com/example/epsilonet/epsilonet/service/ObservationTree$Outcome", "<init>", "(JJ)V"⟩ : MethodName)) rfl hown (mvT hZ (hw _ (List.mem_of_getElem? (i := 3) rfl))) (mvT hZ (hw _ (List.mem_of_getElem? (i := 4) rfl))) (mvT hZ (hw _ (List.mem_of_getElem? (i := 5) rfl))) (by decide) (backOf (W := 1) (own_rm1 l Z a0 hw [] b51 q_1 q_2 (0 : Int64) (0 : Int64) h51 n0 (by omega) A51 F_observed_b51 F_values_b51 (by omega)) hZ (hw _ (List.mem_of_getElem? (i := 5) rfl)) (hw _ (List.mem_of_getElem? (i := 2) rfl)) (by decide) (by decide)) (g := (mkF m 29 #[.val (.long q_1), .second, .val (.long q_2), .second, .val (.int p_3), .val (.int p_4), .val (.int (1 : Int32)), .val (.long v50), .second, .unset, .unset, .unset, .unset, .unset, .unset] [(.long q_2), (.long q_1), (.ref b51), (.ref b51)])) rfl (by rw [hml]; rfl) (Steps.refl _) (a := b51) (argsL := [(.long q_1), (.long q_2)]) (rest := [(.ref b51)]) (lenOf own_pd2 rfl) rfl (by show 2 * 0 + _ ≤ _; exact Nat.le_of_eq rfl) (hb hby at_29) (fun _ _ => ⟨rfl, e51, (by decide : 1 + 0 ≤ _), (by decide : 2 + 0 ≤ _)⟩)
    dsimp only [Pt.U, Pt.locs, Pt.cells, Pt.slots] at X53 l53 y53 z53 st53 hQ53
    have y53 : k53 = 1 := y53
    have z53 : n53 = 2 := z53
    obtain ⟨rfl, N53q, K53q, f54, f55, f56⟩ := hQ53
    have N53 : Fr n0 L53 := by rw [l53]; exact Fr.app N0 N53q
    have z57 := K53q.1
    have z58 := own_lt f54.lt
    have z59 := own_lt f55.lt
    have z60 := own_lt f56.lt
    refine own_go (fun _ k => st53.trans k) ?_
    show own_Go _ _ _ _ T53 (mkF m 32 #[.val (.long q_1), .second, .val (.long q_2), .second, .val (.int p_3), .val (.int p_4), .val (.int (1 : Int32)), .val (.long v50), .second, .unset, .unset, .unset, .unset, .unset, .unset] [(.ref b51)])
    refine own_go (fun _ k => XS.astore X53.here hx rfl (hb hby at_32) rfl rfl (l' := #[.val (.long q_1), .second, .val (.long q_2), .second, .val (.int p_3), .val (.int p_4), .val (.int (1 : Int32)), .val (.long v50), .second, .val (.ref b51), .unset, .unset, .unset, .unset, .unset]) rfl k) ?_
    show own_Go _ _ _ _ T53 (mkF m 34 #[.val (.long q_1), .second, .val (.long q_2), .second, .val (.int p_3), .val (.int p_4), .val (.int (1 : Int32)), .val (.long v50), .second, .val (.ref b51), .unset, .unset, .unset, .unset, .unset] [])
    obtain ⟨T61, h61, X61, e61, E61, A61, D61, Y61, st61⟩ := newO X53 hx hZ hown (hw _ (List.mem_of_getElem? (i := 0) rfl)) (hw _ (List.mem_of_getElem? (i := 1) rfl)) (hw _ (List.mem_of_getElem? (i := 2) rfl)) rfl (g := (mkF m 34 #[.val (.long q_1), .second, .val (.long q_2), .second, .val (.int p_3), .val (.int p_4), .val (.int (1 : Int32)), .val (.long v50), .second, .val (.ref b51), .unset, .unset, .unset, .unset, .unset] [])) rfl (hb hby at_34) (by rw [y53]; decide) (by rw [z53]; decide)
    obtain ⟨b61, g61⟩ : ∃ z, z = T53.heap.size := ⟨_, rfl⟩
    rw [← g61] at A61 D61 Y61 st61
    have z62 := E61.1
    have lt_b61 := own_lt A61.lt
    have F_observed_b61 : Fld Z h61 b61 "com/example/epsilonet/epsilonet/service/ObservationTree$Outcome" "observed" "J" (.long (0 : Int64)) := D61 (Or.inr (hw _ (List.mem_of_getElem? (i := 15) rfl))) (ty := .long) (by decide)
    have F_values_b61 : Fld Z h61 b61 "com/example/epsilonet/epsilonet/service/ObservationTree$Outcome" "values" "J" (.long (0 : Int64)) := D61 (Or.inr (hw _ (List.mem_of_getElem? (i := 17) rfl))) (ty := .long) (by decide)
    refine own_go (fun _ k => st61 _ k) ?_
    show own_Go _ _ _ _ T61 (mkF m 37 #[.val (.long q_1), .second, .val (.long q_2), .second, .val (.int p_3), .val (.int p_4), .val (.int (1 : Int32)), .val (.long v50), .second, .val (.ref b51), .unset, .unset, .unset, .unset, .unset] [(.ref b61)])
    refine own_go (fun _ k => XS.dup X61.here hx rfl (hb hby at_37) rfl rfl k) ?_
    show own_Go _ _ _ _ T61 (mkF m 38 #[.val (.long q_1), .second, .val (.long q_2), .second, .val (.int p_3), .val (.int p_4), .val (.int (1 : Int32)), .val (.long v50), .second, .val (.ref b51), .unset, .unset, .unset, .unset, .unset] [(.ref b61), (.ref b61)])
    refine own_go (fun _ k => XS.lloadN X61.here hx rfl (hb hby at_38) rfl k) ?_
    show own_Go _ _ _ _ T61 (mkF m 39 #[.val (.long q_1), .second, .val (.long q_2), .second, .val (.int p_3), .val (.int p_4), .val (.int (1 : Int32)), .val (.long v50), .second, .val (.ref b51), .unset, .unset, .unset, .unset, .unset] [(.long q_1), (.ref b61), (.ref b61)])
    refine own_go (fun _ k => XS.lloadN X61.here hx rfl (hb hby at_39) rfl k) ?_
    show own_Go _ _ _ _ T61 (mkF m 40 #[.val (.long q_1), .second, .val (.long q_2), .second, .val (.int p_3), .val (.int p_4), .val (.int (1 : Int32)), .val (.long v50), .second, .val (.ref b51), .unset, .unset, .unset, .unset, .unset] [(.long q_2), (.long q_1), (.ref b61), (.ref b61)])
    obtain ⟨_, _, ⟨T63, L63, k63, n63⟩, -, X63, ⟨Lc63, hQ63, l63, y63, z63⟩, st63⟩ := X61.specialBack hx (y := (⟨"com/example/epsilonet/epsilonet/service/ObservationTree$Outcome", "<init>", "(JJ)V"⟩ : MethodName)) rfl hown (mvT hZ (hw _ (List.mem_of_getElem? (i := 3) rfl))) (mvT hZ (hw _ (List.mem_of_getElem? (i := 4) rfl))) (mvT hZ (hw _ (List.mem_of_getElem? (i := 5) rfl))) (by decide) (backOf (W := 1) (own_rm1 l Z a0 hw [] b61 q_1 q_2 (0 : Int64) (0 : Int64) h61 n0 (by omega) A61 F_observed_b61 F_values_b61 (by omega)) hZ (hw _ (List.mem_of_getElem? (i := 5) rfl)) (hw _ (List.mem_of_getElem? (i := 2) rfl)) (by decide) (by decide)) (g := (mkF m 40 #[.val (.long q_1), .second, .val (.long q_2), .second, .val (.int p_3), .val (.int p_4), .val (.int (1 : Int32)), .val (.long v50), .second, .val (.ref b51), .unset, .unset, .unset, .unset, .unset] [(.long q_2), (.long q_1), (.ref b61), (.ref b61)])) rfl (by rw [hml]; rfl) (Steps.refl _) (a := b61) (argsL := [(.long q_1), (.long q_2)]) (rest := [(.ref b61)]) (lenOf own_pd2 rfl) rfl (by show 2 * 0 + _ ≤ _; exact Nat.le_of_eq rfl) (hb hby at_40) (fun _ _ => ⟨rfl, e61, (by show k53 + 1 + _ ≤ _; rw [y53]; decide), (by show n53 + 2 + _ ≤ _; rw [z53]; decide)⟩)
    dsimp only [Pt.U, Pt.locs, Pt.cells, Pt.slots] at X63 l63 y63 z63 st63 hQ63
    have y63 : k63 = 2 := own_addeq y63 (congrArg (fun q => q + 1) y53) rfl
    have z63 : n63 = 4 := own_addeq z63 (congrArg (fun q => q + 2) z53) rfl
    obtain ⟨rfl, N63q, K63q, f64, f65, f66⟩ := hQ63
    have N63 : Fr n0 L63 := by rw [l63]; exact Fr.app N53 N63q
    have z67 := K63q.1
    have z68 := own_lt f64.lt
    have z69 := own_lt f65.lt
    have z70 := own_lt f66.lt
    refine own_go (fun _ k => st63.trans k) ?_
    show own_Go _ _ _ _ T63 (mkF m 43 #[.val (.long q_1), .second, .val (.long q_2), .second, .val (.int p_3), .val (.int p_4), .val (.int (1 : Int32)), .val (.long v50), .second, .val (.ref b51), .unset, .unset, .unset, .unset, .unset] [(.ref b61)])
    refine own_go (fun _ k => XS.astore X63.here hx rfl (hb hby at_43) rfl rfl (l' := #[.val (.long q_1), .second, .val (.long q_2), .second, .val (.int p_3), .val (.int p_4), .val (.int (1 : Int32)), .val (.long v50), .second, .val (.ref b51), .val (.ref b61), .unset, .unset, .unset, .unset]) rfl k) ?_
    show own_Go _ _ _ _ T63 (mkF m 45 #[.val (.long q_1), .second, .val (.long q_2), .second, .val (.int p_3), .val (.int p_4), .val (.int (1 : Int32)), .val (.long v50), .second, .val (.ref b51), .val (.ref b61), .unset, .unset, .unset, .unset] [])
    refine own_go (fun _ k => XS.iload X63.here hx rfl (hb hby at_45) rfl k) ?_
    show own_Go _ _ _ _ T63 (mkF m 47 #[.val (.long q_1), .second, .val (.long q_2), .second, .val (.int p_3), .val (.int p_4), .val (.int (1 : Int32)), .val (.long v50), .second, .val (.ref b51), .val (.ref b61), .unset, .unset, .unset, .unset] [(.int (1 : Int32))])
    have hc71 : ¬ ((1 : Int32) = 0) := by decide
    refine own_go (fun _ k => XS.ifNo X63.here hx rfl (hb hby at_47) rfl (Jvm.Free.XT.i0_eq_f hc71) k) ?_
    show own_Go _ _ _ _ T63 (mkF m 50 #[.val (.long q_1), .second, .val (.long q_2), .second, .val (.int p_3), .val (.int p_4), .val (.int (1 : Int32)), .val (.long v50), .second, .val (.ref b51), .val (.ref b61), .unset, .unset, .unset, .unset] [])
    obtain ⟨T72, h72, X72, e72, E72, A72, D72, Y72, st72⟩ := newO X63 hx hZ hown (hw _ (List.mem_of_getElem? (i := 0) rfl)) (hw _ (List.mem_of_getElem? (i := 1) rfl)) (hw _ (List.mem_of_getElem? (i := 2) rfl)) rfl (g := (mkF m 50 #[.val (.long q_1), .second, .val (.long q_2), .second, .val (.int p_3), .val (.int p_4), .val (.int (1 : Int32)), .val (.long v50), .second, .val (.ref b51), .val (.ref b61), .unset, .unset, .unset, .unset] [])) rfl (hb hby at_50) (by rw [y63]; decide) (by rw [z63]; decide)
    obtain ⟨b72, g72⟩ : ∃ z, z = T63.heap.size := ⟨_, rfl⟩
    rw [← g72] at A72 D72 Y72 st72
    have z73 := E72.1
    have lt_b72 := own_lt A72.lt
    have F_observed_b72 : Fld Z h72 b72 "com/example/epsilonet/epsilonet/service/ObservationTree$Outcome" "observed" "J" (.long (0 : Int64)) := D72 (Or.inr (hw _ (List.mem_of_getElem? (i := 15) rfl))) (ty := .long) (by decide)
    have F_values_b72 : Fld Z h72 b72 "com/example/epsilonet/epsilonet/service/ObservationTree$Outcome" "values" "J" (.long (0 : Int64)) := D72 (Or.inr (hw _ (List.mem_of_getElem? (i := 17) rfl))) (ty := .long) (by decide)
    refine own_go (fun _ k => st72 _ k) ?_
    show own_Go _ _ _ _ T72 (mkF m 53 #[.val (.long q_1), .second, .val (.long q_2), .second, .val (.int p_3), .val (.int p_4), .val (.int (1 : Int32)), .val (.long v50), .second, .val (.ref b51), .val (.ref b61), .unset, .unset, .unset, .unset] [(.ref b72)])
    refine own_go (fun _ k => XS.dup X72.here hx rfl (hb hby at_53) rfl rfl k) ?_
    show own_Go _ _ _ _ T72 (mkF m 54 #[.val (.long q_1), .second, .val (.long q_2), .second, .val (.int p_3), .val (.int p_4), .val (.int (1 : Int32)), .val (.long v50), .second, .val (.ref b51), .val (.ref b61), .unset, .unset, .unset, .unset] [(.ref b72), (.ref b72)])
    refine own_go (fun _ k => XS.lloadN X72.here hx rfl (hb hby at_54) rfl k) ?_
    show own_Go _ _ _ _ T72 (mkF m 55 #[.val (.long q_1), .second, .val (.long q_2), .second, .val (.int p_3), .val (.int p_4), .val (.int (1 : Int32)), .val (.long v50), .second, .val (.ref b51), .val (.ref b61), .unset, .unset, .unset, .unset] [(.long q_1), (.ref b72), (.ref b72)])
    refine own_go (fun _ k => XS.lload X72.here hx rfl (hb hby at_55) rfl k) ?_
    show own_Go _ _ _ _ T72 (mkF m 57 #[.val (.long q_1), .second, .val (.long q_2), .second, .val (.int p_3), .val (.int p_4), .val (.int (1 : Int32)), .val (.long v50), .second, .val (.ref b51), .val (.ref b61), .unset, .unset, .unset, .unset] [(.long v50), (.long q_1), (.ref b72), (.ref b72)])
    refine own_go (fun _ k => XS.lxor X72.here hx rfl (hb hby at_57) rfl k) ?_
    show own_Go _ _ _ _ T72 (mkF m 58 #[.val (.long q_1), .second, .val (.long q_2), .second, .val (.int p_3), .val (.int p_4), .val (.int (1 : Int32)), .val (.long v50), .second, .val (.ref b51), .val (.ref b61), .unset, .unset, .unset, .unset] [(.long (q_1 ^^^ v50)), (.ref b72), (.ref b72)])
    refine own_go (fun _ k => XS.lloadN X72.here hx rfl (hb hby at_58) rfl k) ?_
    show own_Go _ _ _ _ T72 (mkF m 59 #[.val (.long q_1), .second, .val (.long q_2), .second, .val (.int p_3), .val (.int p_4), .val (.int (1 : Int32)), .val (.long v50), .second, .val (.ref b51), .val (.ref b61), .unset, .unset, .unset, .unset] [(.long q_2), (.long (q_1 ^^^ v50)), (.ref b72), (.ref b72)])
    obtain ⟨_, _, ⟨T74, L74, k74, n74⟩, -, X74, ⟨Lc74, hQ74, l74, y74, z74⟩, st74⟩ := X72.specialBack hx (y := (⟨"com/example/epsilonet/epsilonet/service/ObservationTree$Outcome", "<init>", "(JJ)V"⟩ : MethodName)) rfl hown (mvT hZ (hw _ (List.mem_of_getElem? (i := 3) rfl))) (mvT hZ (hw _ (List.mem_of_getElem? (i := 4) rfl))) (mvT hZ (hw _ (List.mem_of_getElem? (i := 5) rfl))) (by decide) (backOf (W := 1) (own_rm1 l Z a0 hw [] b72 (q_1 ^^^ v50) q_2 (0 : Int64) (0 : Int64) h72 n0 (by omega) A72 F_observed_b72 F_values_b72 (by omega)) hZ (hw _ (List.mem_of_getElem? (i := 5) rfl)) (hw _ (List.mem_of_getElem? (i := 2) rfl)) (by decide) (by decide)) (g := (mkF m 59 #[.val (.long q_1), .second, .val (.long q_2), .second, .val (.int p_3), .val (.int p_4), .val (.int (1 : Int32)), .val (.long v50), .second, .val (.ref b51), .val (.ref b61), .unset, .unset, .unset, .unset] [(.long q_2), (.long (q_1 ^^^ v50)), (.ref b72), (.ref b72)])) rfl (by rw [hml]; rfl) (Steps.refl _) (a := b72) (argsL := [(.long (q_1 ^^^ v50)), (.long q_2)]) (rest := [(.ref b72)]) (lenOf own_pd2 rfl) rfl (by show 2 * 0 + _ ≤ _; exact Nat.le_of_eq rfl) (hb hby at_59) (fun _ _ => ⟨rfl, e72, (by show k63 + 1 + _ ≤ _; rw [y63]; decide), (by show n63 + 2 + _ ≤ _; rw [z63]; decide)⟩)
    dsimp only [Pt.U, Pt.locs, Pt.cells, Pt.slots] at X74 l74 y74 z74 st74 hQ74
    have y74 : k74 = 3 := own_addeq y74 (congrArg (fun q => q + 1) y63) rfl
    have z74 : n74 = 6 := own_addeq z74 (congrArg (fun q => q + 2) z63) rfl
    obtain ⟨rfl, N74q, K74q, f75, f76, f77⟩ := hQ74
    have N74 : Fr n0 L74 := by rw [l74]; exact Fr.app N63 N74q
    have z78 := K74q.1
    have z79 := own_lt f75.lt
    obtain ⟨v80, hdv80⟩ : ∃ z : Int64, z = (q_1 ^^^ v50) := ⟨_, rfl⟩
    rw [← hdv80] at f76
    have z81 := own_lt f76.lt
    have z82 := own_lt f77.lt
    refine own_go (fun _ k => st74.trans k) ?_
    show own_Go _ _ _ _ T74 (mkF m 62 #[.val (.long q_1), .second, .val (.long q_2), .second, .val (.int p_3), .val (.int p_4), .val (.int (1 : Int32)), .val (.long v50), .second, .val (.ref b51), .val (.ref b61), .unset, .unset, .unset, .unset] [(.ref b72)])
    refine own_go (fun _ k => XS.goto X74.here hx rfl (pc0 := 62) (pc' := 77) rfl (hb hby at_62) (by decide) (by decide) k) ?_
    show own_Go _ _ _ _ T74 (mkF m 77 #[.val (.long q_1), .second, .val (.long q_2), .second, .val (.int p_3), .val (.int p_4), .val (.int (1 : Int32)), .val (.long v50), .second, .val (.ref b51), .val (.ref b61), .unset, .unset, .unset, .unset] [(.ref b72)])
    refine own_go (fun _ k => XS.astore X74.here hx rfl (hb hby at_77) rfl rfl (l' := #[.val (.long q_1), .second, .val (.long q_2), .second, .val (.int p_3), .val (.int p_4), .val (.int (1 : Int32)), .val (.long v50), .second, .val (.ref b51), .val (.ref b61), .val (.ref b72), .unset, .unset, .unset]) rfl k) ?_
    show own_Go _ _ _ _ T74 (mkF m 79 #[.val (.long q_1), .second, .val (.long q_2), .second, .val (.int p_3), .val (.int p_4), .val (.int (1 : Int32)), .val (.long v50), .second, .val (.ref b51), .val (.ref b61), .val (.ref b72), .unset, .unset, .unset] [])
    refine own_go (fun _ k => XS.aload X74.here hx rfl (hb hby at_79) rfl rfl k) ?_
    show own_Go _ _ _ _ T74 (mkF m 81 #[.val (.long q_1), .second, .val (.long q_2), .second, .val (.int p_3), .val (.int p_4), .val (.int (1 : Int32)), .val (.long v50), .second, .val (.ref b51), .val (.ref b61), .val (.ref b72), .unset, .unset, .unset] [(.ref b51)])
    have f83 : Fld Z T74.heap b51 "com/example/epsilonet/epsilonet/service/ObservationTree$Outcome" "observed" "J" (.long q_1) := ((((f55.ext E61).keep K63q (ninS (own_ne (by omega)) nin0)).ext E72).keep K74q (ninS (own_ne (by omega)) nin0))
    have f84 : Fld Z T74.heap b51 "com/example/epsilonet/epsilonet/service/ObservationTree$Outcome" "values" "J" (.long q_2) := ((((f56.ext E61).keep K63q (ninS (own_ne (by omega)) nin0)).ext E72).keep K74q (ninS (own_ne (by omega)) nin0))
    have f86 : Exa Z T74.heap b51 "com/example/epsilonet/epsilonet/service/ObservationTree$Outcome" := ((((f54.ext E61).keep K63q).ext E72).keep K74q)
    obtain ⟨cq85, kq85, q85a, q85b, q85c⟩ := isOf hZ rfl f86
    obtain ⟨_, _, ⟨T85, L85, k85, n85⟩, -, X85, ⟨Lc85, hQ85, l85, y85, z85⟩, st85⟩ := X74.virtualBack hx (y := (⟨"com/example/epsilonet/epsilonet/service/ObservationTree$Outcome", "hashCode", "()I"⟩ : MethodName)) (z := (⟨"com/example/epsilonet/epsilonet/service/ObservationTree$Outcome", "hashCode", "()I"⟩ : MethodName)) hown (mvT hZ (hw _ (List.mem_of_getElem? (i := 18) rfl))) (mvT hZ (hw _ (List.mem_of_getElem? (i := 19) rfl))) (notFace_of_selects (args := #[]) (mvT hZ (hw _ (List.mem_of_getElem? (i := 21) rfl)))) (mvT hZ (hw _ (List.mem_of_getElem? (i := 21) rfl))) (mvT hZ (hw _ (List.mem_of_getElem? (i := 20) rfl))) (by decide) (backOf (W := 0) (own_rm4 l Z a0 hw [] b51 q_1 q_2 T74.heap n0 (by omega) f83 f84) hZ (hw _ (List.mem_of_getElem? (i := 22) rfl)) (hw _ (List.mem_of_getElem? (i := 2) rfl)) (by decide) (by decide)) q85a q85c (g := (mkF m 81 #[.val (.long q_1), .second, .val (.long q_2), .second, .val (.int p_3), .val (.int p_4), .val (.int (1 : Int32)), .val (.long v50), .second, .val (.ref b51), .val (.ref b61), .val (.ref b72), .unset, .unset, .unset] [(.ref b51)])) rfl (by rw [hml]; rfl) (Steps.refl _) (argsL := []) (rest := []) (lenOf own_pd3 rfl) rfl (by show 2 * 0 + _ ≤ _; exact Nat.le_of_eq rfl) (hb hby at_81) (fun _ _ => ⟨rfl, rfl, (by show k74 + _ ≤ _; rw [y74]; decide), (by show n74 + _ ≤ _; rw [z74]; decide)⟩)
    dsimp only [Pt.U, Pt.locs, Pt.cells, Pt.slots] at X85 l85 y85 z85 st85 hQ85
    have y85 : k85 = 3 := own_addeq y85 (congrArg (fun q => q) y74) rfl
    have z85 : n85 = 6 := own_addeq z85 (congrArg (fun q => q) z74) rfl
    obtain ⟨r87, rfl, N85q, hr_r87, e85⟩ := hQ85
    have N85 : Fr n0 L85 := by rw [l85]; exact Fr.app N74 N85q
    refine own_go (fun _ k => st85.trans k) ?_
    show own_Go _ _ _ _ T85 (mkF m 84 #[.val (.long q_1), .second, .val (.long q_2), .second, .val (.int p_3), .val (.int p_4), .val (.int (1 : Int32)), .val (.long v50), .second, .val (.ref b51), .val (.ref b61), .val (.ref b72), .unset, .unset, .unset] [(.int r87)])
    refine own_go (fun _ k => XS.istore X85.here hx rfl (hb hby at_84) rfl (l' := #[.val (.long q_1), .second, .val (.long q_2), .second, .val (.int p_3), .val (.int p_4), .val (.int (1 : Int32)), .val (.long v50), .second, .val (.ref b51), .val (.ref b61), .val (.ref b72), .val (.int r87), .unset, .unset]) rfl k) ?_
    show own_Go _ _ _ _ T85 (mkF m 86 #[.val (.long q_1), .second, .val (.long q_2), .second, .val (.int p_3), .val (.int p_4), .val (.int (1 : Int32)), .val (.long v50), .second, .val (.ref b51), .val (.ref b61), .val (.ref b72), .val (.int r87), .unset, .unset] [])
    refine own_go (fun _ k => XS.aload X85.here hx rfl (hb hby at_86) rfl rfl k) ?_
    show own_Go _ _ _ _ T85 (mkF m 88 #[.val (.long q_1), .second, .val (.long q_2), .second, .val (.int p_3), .val (.int p_4), .val (.int (1 : Int32)), .val (.long v50), .second, .val (.ref b51), .val (.ref b61), .val (.ref b72), .val (.int r87), .unset, .unset] [(.ref b61)])
    have f88 : Fld Z T74.heap b61 "com/example/epsilonet/epsilonet/service/ObservationTree$Outcome" "observed" "J" (.long q_1) := ((f65.ext E72).keep K74q (ninS (own_ne (by omega)) nin0))
    have f89 : Fld Z T74.heap b61 "com/example/epsilonet/epsilonet/service/ObservationTree$Outcome" "values" "J" (.long q_2) := ((f66.ext E72).keep K74q (ninS (own_ne (by omega)) nin0))
    have f91 : Exa Z T74.heap b61 "com/example/epsilonet/epsilonet/service/ObservationTree$Outcome" := ((f64.ext E72).keep K74q)
    obtain ⟨cq90, kq90, q90a, q90b, q90c⟩ := isOf hZ e85 f91
    obtain ⟨_, _, ⟨T90, L90, k90, n90⟩, -, X90, ⟨Lc90, hQ90, l90, y90, z90⟩, st90⟩ := X85.virtualBack hx (y := (⟨"com/example/epsilonet/epsilonet/service/ObservationTree$Outcome", "hashCode", "()I"⟩ : MethodName)) (z := (⟨"com/example/epsilonet/epsilonet/service/ObservationTree$Outcome", "hashCode", "()I"⟩ : MethodName)) hown (mvT hZ (hw _ (List.mem_of_getElem? (i := 18) rfl))) (mvT hZ (hw _ (List.mem_of_getElem? (i := 19) rfl))) (notFace_of_selects (args := #[]) (mvT hZ (hw _ (List.mem_of_getElem? (i := 21) rfl)))) (mvT hZ (hw _ (List.mem_of_getElem? (i := 21) rfl))) (mvT hZ (hw _ (List.mem_of_getElem? (i := 20) rfl))) (by decide) (backOf (W := 0) (own_rm4 l Z a0 hw [] b61 q_1 q_2 T74.heap n0 (by omega) f88 f89) hZ (hw _ (List.mem_of_getElem? (i := 22) rfl)) (hw _ (List.mem_of_getElem? (i := 2) rfl)) (by decide) (by decide)) q90a q90c (g := (mkF m 88 #[.val (.long q_1), .second, .val (.long q_2), .second, .val (.int p_3), .val (.int p_4), .val (.int (1 : Int32)), .val (.long v50), .second, .val (.ref b51), .val (.ref b61), .val (.ref b72), .val (.int r87), .unset, .unset] [(.ref b61)])) rfl (by rw [hml]; rfl) (Steps.refl _) (argsL := []) (rest := []) (lenOf own_pd3 rfl) rfl (by show 2 * 0 + _ ≤ _; exact Nat.le_of_eq rfl) (hb hby at_88) (fun _ _ => ⟨rfl, e85, (by show k85 + _ ≤ _; rw [y85]; decide), (by show n85 + _ ≤ _; rw [z85]; decide)⟩)
    dsimp only [Pt.U, Pt.locs, Pt.cells, Pt.slots] at X90 l90 y90 z90 st90 hQ90
    have y90 : k90 = 3 := own_addeq y90 (congrArg (fun q => q) y85) rfl
    have z90 : n90 = 6 := own_addeq z90 (congrArg (fun q => q) z85) rfl
    obtain ⟨r92, rfl, N90q, hr_r92, e90⟩ := hQ90
    have N90 : Fr n0 L90 := by rw [l90]; exact Fr.app N85 N90q
    refine own_go (fun _ k => st90.trans k) ?_
    show own_Go _ _ _ _ T90 (mkF m 91 #[.val (.long q_1), .second, .val (.long q_2), .second, .val (.int p_3), .val (.int p_4), .val (.int (1 : Int32)), .val (.long v50), .second, .val (.ref b51), .val (.ref b61), .val (.ref b72), .val (.int r87), .unset, .unset] [(.int r92)])
    refine own_go (fun _ k => XS.istore X90.here hx rfl (hb hby at_91) rfl (l' := #[.val (.long q_1), .second, .val (.long q_2), .second, .val (.int p_3), .val (.int p_4), .val (.int (1 : Int32)), .val (.long v50), .second, .val (.ref b51), .val (.ref b61), .val (.ref b72), .val (.int r87), .val (.int r92), .unset]) rfl k) ?_
    show own_Go _ _ _ _ T90 (mkF m 93 #[.val (.long q_1), .second, .val (.long q_2), .second, .val (.int p_3), .val (.int p_4), .val (.int (1 : Int32)), .val (.long v50), .second, .val (.ref b51), .val (.ref b61), .val (.ref b72), .val (.int r87), .val (.int r92), .unset] [])
    refine own_go (fun _ k => XS.aload X90.here hx rfl (hb hby at_93) rfl rfl k) ?_
    show own_Go _ _ _ _ T90 (mkF m 95 #[.val (.long q_1), .second, .val (.long q_2), .second, .val (.int p_3), .val (.int p_4), .val (.int (1 : Int32)), .val (.long v50), .second, .val (.ref b51), .val (.ref b61), .val (.ref b72), .val (.int r87), .val (.int r92), .unset] [(.ref b72)])
    obtain ⟨cq93, kq93, q93a, q93b, q93c⟩ := isOf hZ e90 f75
    obtain ⟨_, _, ⟨T93, L93, k93, n93⟩, -, X93, ⟨Lc93, hQ93, l93, y93, z93⟩, st93⟩ := X90.virtualBack hx (y := (⟨"com/example/epsilonet/epsilonet/service/ObservationTree$Outcome", "hashCode", "()I"⟩ : MethodName)) (z := (⟨"com/example/epsilonet/epsilonet/service/ObservationTree$Outcome", "hashCode", "()I"⟩ : MethodName)) hown (mvT hZ (hw _ (List.mem_of_getElem? (i := 18) rfl))) (mvT hZ (hw _ (List.mem_of_getElem? (i := 19) rfl))) (notFace_of_selects (args := #[]) (mvT hZ (hw _ (List.mem_of_getElem? (i := 21) rfl)))) (mvT hZ (hw _ (List.mem_of_getElem? (i := 21) rfl))) (mvT hZ (hw _ (List.mem_of_getElem? (i := 20) rfl))) (by decide) (backOf (W := 0) (own_rm4 l Z a0 hw [] b72 v80 q_2 T74.heap n0 (by omega) f76 f77) hZ (hw _ (List.mem_of_getElem? (i := 22) rfl)) (hw _ (List.mem_of_getElem? (i := 2) rfl)) (by decide) (by decide)) q93a q93c (g := (mkF m 95 #[.val (.long q_1), .second, .val (.long q_2), .second, .val (.int p_3), .val (.int p_4), .val (.int (1 : Int32)), .val (.long v50), .second, .val (.ref b51), .val (.ref b61), .val (.ref b72), .val (.int r87), .val (.int r92), .unset] [(.ref b72)])) rfl (by rw [hml]; rfl) (Steps.refl _) (argsL := []) (rest := []) (lenOf own_pd3 rfl) rfl (by show 2 * 0 + _ ≤ _; exact Nat.le_of_eq rfl) (hb hby at_95) (fun _ _ => ⟨rfl, e90, (by show k90 + _ ≤ _; rw [y90]; decide), (by show n90 + _ ≤ _; rw [z90]; decide)⟩)
    dsimp only [Pt.U, Pt.locs, Pt.cells, Pt.slots] at X93 l93 y93 z93 st93 hQ93
    have y93 : k93 = 3 := own_addeq y93 (congrArg (fun q => q) y90) rfl
    have z93 : n93 = 6 := own_addeq z93 (congrArg (fun q => q) z90) rfl
    obtain ⟨r94, rfl, N93q, hr_r94, e93⟩ := hQ93
    have N93 : Fr n0 L93 := by rw [l93]; exact Fr.app N90 N93q
    refine own_go (fun _ k => st93.trans k) ?_
    show own_Go _ _ _ _ T93 (mkF m 98 #[.val (.long q_1), .second, .val (.long q_2), .second, .val (.int p_3), .val (.int p_4), .val (.int (1 : Int32)), .val (.long v50), .second, .val (.ref b51), .val (.ref b61), .val (.ref b72), .val (.int r87), .val (.int r92), .unset] [(.int r94)])
    refine own_go (fun _ k => XS.istore X93.here hx rfl (hb hby at_98) rfl (l' := #[.val (.long q_1), .second, .val (.long q_2), .second, .val (.int p_3), .val (.int p_4), .val (.int (1 : Int32)), .val (.long v50), .second, .val (.ref b51), .val (.ref b61), .val (.ref b72), .val (.int r87), .val (.int r92), .val (.int r94)]) rfl k) ?_
    show own_Go _ _ _ _ T93 (mkF m 100 #[.val (.long q_1), .second, .val (.long q_2), .second, .val (.int p_3), .val (.int p_4), .val (.int (1 : Int32)), .val (.long v50), .second, .val (.ref b51), .val (.ref b61), .val (.ref b72), .val (.int r87), .val (.int r92), .val (.int r94)] [])
    refine own_go (fun _ k => XS.iload X93.here hx rfl (hb hby at_100) rfl k) ?_
    show own_Go _ _ _ _ T93 (mkF m 102 #[.val (.long q_1), .second, .val (.long q_2), .second, .val (.int p_3), .val (.int p_4), .val (.int (1 : Int32)), .val (.long v50), .second, .val (.ref b51), .val (.ref b61), .val (.ref b72), .val (.int r87), .val (.int r92), .val (.int r94)] [(.int r87)])
    refine own_go (fun _ k => XS.iload X93.here hx rfl (hb hby at_102) rfl k) ?_
    show own_Go _ _ _ _ T93 (mkF m 104 #[.val (.long q_1), .second, .val (.long q_2), .second, .val (.int p_3), .val (.int p_4), .val (.int (1 : Int32)), .val (.long v50), .second, .val (.ref b51), .val (.ref b61), .val (.ref b72), .val (.int r87), .val (.int r92), .val (.int r94)] [(.int r92), (.int r87)])
    have hc95 : r87 = r92 := own_t0_2 q_1 q_2 p_3 v50 v80 r87 r92 r94 hdv50 hdv80 hr_r87 hr_r92 hr_r94
    refine own_go (fun _ k => XS.icmpNo X93.here hx rfl (hb hby at_104) rfl (Jvm.Free.XT.ii_ne_f hc95) k) ?_
    show own_Go _ _ _ _ T93 (mkF m 107 #[.val (.long q_1), .second, .val (.long q_2), .second, .val (.int p_3), .val (.int p_4), .val (.int (1 : Int32)), .val (.long v50), .second, .val (.ref b51), .val (.ref b61), .val (.ref b72), .val (.int r87), .val (.int r92), .val (.int r94)] [])
    refine own_go (fun _ k => XS.iload X93.here hx rfl (hb hby at_107) rfl k) ?_
    show own_Go _ _ _ _ T93 (mkF m 109 #[.val (.long q_1), .second, .val (.long q_2), .second, .val (.int p_3), .val (.int p_4), .val (.int (1 : Int32)), .val (.long v50), .second, .val (.ref b51), .val (.ref b61), .val (.ref b72), .val (.int r87), .val (.int r92), .val (.int r94)] [(.int r87)])
    refine own_go (fun _ k => XS.iload X93.here hx rfl (hb hby at_109) rfl k) ?_
    show own_Go _ _ _ _ T93 (mkF m 111 #[.val (.long q_1), .second, .val (.long q_2), .second, .val (.int p_3), .val (.int p_4), .val (.int (1 : Int32)), .val (.long v50), .second, .val (.ref b51), .val (.ref b61), .val (.ref b72), .val (.int r87), .val (.int r92), .val (.int r94)] [(.int r94), (.int r87)])
    have hc96 : ¬ (r87 = r94) := own_t0_3 q_1 q_2 p_3 v50 v80 r87 r92 r94 hdv50 hdv80 hr_r87 hr_r92 hr_r94 hc95
    refine own_go (fun _ k => XS.icmpNo X93.here hx rfl (hb hby at_111) rfl (Jvm.Free.XT.ii_eq_f hc96) k) ?_
    show own_Go _ _ _ _ T93 (mkF m 114 #[.val (.long q_1), .second, .val (.long q_2), .second, .val (.int p_3), .val (.int p_4), .val (.int (1 : Int32)), .val (.long v50), .second, .val (.ref b51), .val (.ref b61), .val (.ref b72), .val (.int r87), .val (.int r92), .val (.int r94)] [])
    refine own_go (fun _ k => XS.iconst X93.here hx rfl (hb hby at_114) k) ?_
    show own_Go _ _ _ _ T93 (mkF m 115 #[.val (.long q_1), .second, .val (.long q_2), .second, .val (.int p_3), .val (.int p_4), .val (.int (1 : Int32)), .val (.long v50), .second, .val (.ref b51), .val (.ref b61), .val (.ref b72), .val (.int r87), .val (.int r92), .val (.int r94)] [(.int (1 : Int32))])
    refine own_go (fun _ k => XS.goto X93.here hx rfl (pc0 := 115) (pc' := 119) rfl (hb hby at_115) (by decide) (by decide) k) ?_
    show own_Go _ _ _ _ T93 (mkF m 119 #[.val (.long q_1), .second, .val (.long q_2), .second, .val (.int p_3), .val (.int p_4), .val (.int (1 : Int32)), .val (.long v50), .second, .val (.ref b51), .val (.ref b61), .val (.ref b72), .val (.int r87), .val (.int r92), .val (.int r94)] [(.int (1 : Int32))])
    obtain ⟨fs, hr, hrun, hended, hW, hsame⟩ := X93.leave (v := some (.int (1 : Int32))) (fun h => by rw [Bd.returns] at h; cases h)
    refine ⟨_, _, retOut X93 hx Bd.returns rfl (Or.inl ⟨rfl, Or.inr (Or.inl rfl), _, rfl⟩) (hb hby at_119) hr, hrun, hended, _, _, rfl, ?_, ⟨_, rfl⟩, hW, hsame.mono (by rw [y93]; decide) (by rw [z93]; decide)⟩
    show own_Q0 Z q_1 q_2 p_3 p_4 h0 n0 _ T93.heap _
    rw [e93]
    exact ⟨rfl, N93⟩
set_option maxRecDepth 65536 in
set_option maxHeartbeats 40000000 in
theorem comes_1 {Post : Tables → Env → Array Value → State → Outcome → State → Prop} (hpost : ∀ tb e args s v u, (limb_1_1.after args s (.returned v) u = true ∧ limb_1_2.after args s (.returned v) u = true ∧ True) → FrameEnd s (.returned v) u (Jvm.fieldLocs frame_1_writes args s ++ Jvm.arrayLocs frame_1_arrays args s ++ Jvm.staticLocs frame_1_statics s) 16 128 → Post tb e args s (.returned v) u) :
    ArmFor flags0 classFile x code maxLocals ret World_1 tables_1 room_1 Calls_1 rest_1 Pre_1 Post := by
  intro l hfl _ _ p e ha hc hk s m args below hf hA hF happ hP
  obtain ⟨hcalls, hrest, hpre⟩ := hP
  obtain ⟨-, -, -, hnamed, -, -, -, hat⟩ := (Spec.applies_iff hf).mp happ
  obtain ⟨hg, hn⟩ := and_e (Cond.before_iff.mp (show (Jvm.Cond.and given_1 narrow_1).before args s = true from hpre))
  obtain ⟨g1, g2⟩ := and_e hg
  obtain ⟨g3, g4⟩ := and_e g2
  obtain ⟨g5, g6⟩ := and_e g4
  obtain ⟨g7, g8⟩ := and_e g6
  obtain ⟨w0, w1, w2, w3, rfl⟩ : ∃ w0 w1 w2 w3 : Value, args = #[w0, w1, w2, w3] := by
    have hs : args.size = 4 := by simpa [Cond.value, given_1] using g1
    obtain ⟨L⟩ := args
    match L, hs with
    | [w0, w1, w2, w3], _ => exact ⟨w0, w1, w2, w3, rfl⟩
  have hw := fun d (hd : d ∈ tables_1) => atoms_spec (ws := Jvm.Cond.code x code maxLocals ret :: tables_1) hat d (List.mem_cons_of_mem _ hd)
  have hfit : Fit s := fun {y c} hc i hi => by
    obtain ⟨ha, rfl⟩ := Array.getElem?_eq_some_iff.mp hc
    have q := List.all_eq_true.mp ((Array.all_eq_true_iff_forall_mem.mp hF) _ (Array.getElem_mem ha)) i (List.mem_range.mpr hi)
    simpa [Array.getElem?_eq_getElem hi] using q
  obtain ⟨i0, ei0⟩ := isL_v g3
  obtain rfl : w0 = (.long i0) := Option.some.inj ei0
  obtain ⟨i1, ei1⟩ := isL_v g5
  obtain rfl : w1 = (.long i1) := Option.some.inj ei1
  obtain ⟨i2, ei2⟩ := is_v g7
  obtain rfl : w2 = (.int i2) := Option.some.inj ei2
  obtain ⟨i3, ei3⟩ := is_v g8
  obtain rfl : w3 = (.int i3) := Option.some.inj ei3
  obtain ⟨n, o, h1, h2, h3, _, L, rfl, ⟨rfl, N⟩, hq⟩ := own_rm0 l s _ hw tables_1 i0 i1 i2 i3  s.heap s.heap.size (Nat.le_refl _)  p e ha hc hk s m _ below hf ((Spec.applies_iff_loose hf).mp happ).1 ⟨rfl, State.Warmed39.refl s, rfl⟩ trivial
  refine ⟨n, _, h1, h2, h3, hpost _ _ _ _ _ _ ⟨Cond.after_iff.mpr rfl, Cond.after_iff.mpr (eq_i res_at (Term.int_eval (1)) rfl), trivial⟩ ⟨hq.1, hq.2.1, (hq.2.2.sift fun y hy => Or.inr (N y hy)).mono (by decide) (by decide)⟩⟩
theorem main_1_1 : Claimed_1_1 := comes_1 fun _ _ _ _ _ _ h hF => ⟨h.1, hF⟩
theorem main_1_2 : Claimed_1_2 := comes_1 fun _ _ _ _ _ _ h hF => ⟨h.2.1, hF⟩
end Jvm.Pilot.@@N@@
namespace Jvm.Pilot.@@N@@
open Jvm Jvm.ClassFile Sem Op Lib Jvm.Free Jvm.Stand Jvm.Pilot.@@N@@.Jvm.D
/-! MADE BY PROGRAM (witnessworld.py) out of the Statement's table words and the real class files: 15 classes; the members and pool entries that the words name. The judged class is class 1, her method 1. -/
namespace start1
open Jvm.ClassFile
def u (s : String) : CpInfo := .utf8 (stringToUtf16 s)
/-- a pool by its gaps: so many unusable entries, then the entry; so many at the end -/
def gap : Nat → List CpInfo → List CpInfo
  | 0, r => r
  | n + 1, r => .unusable :: gap n r
def poolList (es : List (Nat × CpInfo)) (last : Nat) : List CpInfo := es.foldr (fun e r => gap e.1 (e.2 :: r)) (gap last [])
def pool (es : List (Nat × CpInfo)) (last : Nat) : Array CpInfo := ⟨poolList es last⟩
def fileOf (pool : Array CpInfo) (this : Nat) (attrs : Array Attribute := #[]) (ms : Array MethodInfo := #[]) (fl : Nat := 33) (sup : Nat := 0) (ifs : Array Nat := #[]) (fds : Array FieldInfo := #[]) : ClassFile where
  minorVersion := 0
  majorVersion := 65
  constantPool := pool
  accessFlags := fl
  thisClass := this
  superClass := sup
  interfaces := ifs
  fields := fds
  methods := ms
  attributes := attrs
def plain (name : String) (sup : Option ClassId) : Class where
  name := name
  kind := .ordinary
  loader := none
  accessFlags := 33
  super := sup
  interfaces := #[]
  cf := none
  fields := #[]
  methods := #[]
  instanceTypes := #[]
  staticTypes := #[]
  resolved := #[]
  callSites := []
  init := .initialized
  statics := none
  mirror := none

def pool0 : Array CpInfo := pool [(5, u "<init>"), (0, u "()V"), (1, .class_ 10), (1, u "java/lang/Object")] 113

def k0c0 : Code := { maxStack := 0, maxLocals := 1, code := object_method_1_code, exceptionTable := #[], attributes := #[] }
def k0m0 : Method := { name := "<init>", desc := "()V", sig := { parameters := [], returnType := none }, accessFlags := 1, code := some k0c0 }
/-- java/lang/Object -/
def k0 : Class := { plain "java/lang/Object" none with
  accessFlags := 33
  interfaces := #[]
  cf := some (fileOf pool0 8 #[] #[{ accessFlags := 1, nameIndex := 5, descriptorIndex := 6, attributes := #[] }] 33 0 #[] #[])
  fields := #[]
  methods := #[k0m0]
  instanceTypes := #[]
  staticTypes := #[]
  resolved := Array.replicate 124 none
  statics := none }

def pool1 : Array CpInfo := pool [(2, .class_ 4), (1, u "java/lang/Object"), (0, u "<init>"), (0, u "()V"), (0, .class_ 8), (0, u "com/example/epsilonet/epsilonet/service/ObservationTree$Outcome"), (0, .methodref 7 10), (0, .nameAndType 5 11), (0, u "(JJ)V"), (0, .methodref 7 13), (0, .nameAndType 14 15), (0, u "hashCode"), (0, u "()I"), (0, .class_ 17), (0, u "com/example/epsilonet/epsilonet/service/OutcomeHashCodePinLaw"), (2, u "law"), (0, u "(JJII)Z")] 7

def k1m0 : Method := { name := "<init>", desc := "()V", sig := { parameters := [], returnType := none }, accessFlags := 2, code := none }
def k1c1 : Code := { maxStack := 8, maxLocals := 15, code := code, exceptionTable := #[], attributes := #[] }
def k1m1 : Method := { name := "law", desc := "(JJII)Z", sig := { parameters := [.long, .long, .int, .int], returnType := some .boolean }, accessFlags := 9, code := some k1c1 }
/-- com/example/epsilonet/epsilonet/service/OutcomeHashCodePinLaw -/
def k1 : Class := { plain "com/example/epsilonet/epsilonet/service/OutcomeHashCodePinLaw" (some 0) with
  accessFlags := 49
  interfaces := #[]
  cf := some (fileOf pool1 16 #[] #[{ accessFlags := 2, nameIndex := 5, descriptorIndex := 6, attributes := #[] }, { accessFlags := 9, nameIndex := 20, descriptorIndex := 21, attributes := #[] }] 49 2 #[] #[])
  fields := #[]
  methods := #[k1m0, k1m1]
  instanceTypes := #[]
  staticTypes := #[]
  resolved := Array.replicate 29 none
  statics := none }

def pool2 : Array CpInfo := pool [(1, .methodref 2 3), (0, .class_ 4), (0, .nameAndType 5 6), (0, u "java/lang/Object"), (0, u "<init>"), (0, u "()V"), (0, .class_ 8), (0, u "java/lang/Record")] 13

def k2c0 : Code := { maxStack := 1, maxLocals := 1, code := jdk_30_method_1_code, exceptionTable := #[], attributes := #[] }
def k2m0 : Method := { name := "<init>", desc := "()V", sig := { parameters := [], returnType := none }, accessFlags := 4, code := some k2c0 }
/-- java/lang/Record -/
def k2 : Class := { plain "java/lang/Record" (some 0) with
  accessFlags := 1057
  interfaces := #[]
  cf := some (fileOf pool2 7 #[] #[{ accessFlags := 4, nameIndex := 5, descriptorIndex := 6, attributes := #[] }] 1057 2 #[] #[])
  fields := #[]
  methods := #[k2m0]
  instanceTypes := #[]
  staticTypes := #[]
  resolved := Array.replicate 22 none
  statics := none }

def pool3 : Array CpInfo := pool [(1, .methodref 2 3), (0, .class_ 4), (0, .nameAndType 5 6), (0, u "java/lang/Record"), (0, u "<init>"), (0, u "()V"), (0, .fieldref 8 9), (0, .class_ 10), (0, .nameAndType 11 12), (0, u "com/example/epsilonet/epsilonet/service/ObservationTree$Outcome"), (0, u "observed"), (0, u "J"), (0, .fieldref 8 14), (0, .nameAndType 15 12), (0, u "values"), (2, .methodref 19 20), (0, .class_ 21), (0, .nameAndType 22 23), (0, u "java/lang/Long"), (0, u "hashCode"), (0, u "(J)I"), (4, u "(JJ)V"), (8, u "()I"), (5, .class_ 44), (0, u "com/example/epsilonet/epsilonet/service/ObservationTree")] 20

def k3c0 : Code := { maxStack := 3, maxLocals := 5, code := prog_38_method_1_code, exceptionTable := #[], attributes := #[] }
def k3m0 : Method := { name := "<init>", desc := "(JJ)V", sig := { parameters := [.long, .long], returnType := none }, accessFlags := 0, code := some k3c0 }
def k3c1 : Code := { maxStack := 3, maxLocals := 1, code := prog_38_method_4_code, exceptionTable := #[], attributes := #[] }
def k3m1 : Method := { name := "hashCode", desc := "()I", sig := { parameters := [], returnType := some .int }, accessFlags := 1, code := some k3c1 }
/-- com/example/epsilonet/epsilonet/service/ObservationTree$Outcome -/
def k3 : Class := { plain "com/example/epsilonet/epsilonet/service/ObservationTree$Outcome" (some 2) with
  accessFlags := 48
  interfaces := #[]
  cf := some (fileOf pool3 8 #[.nestHost 43] #[{ accessFlags := 0, nameIndex := 5, descriptorIndex := 28, attributes := #[] }, { accessFlags := 1, nameIndex := 22, descriptorIndex := 37, attributes := #[] }] 48 2 #[] #[{ accessFlags := 18, nameIndex := 11, descriptorIndex := 12, attributes := #[] }, { accessFlags := 18, nameIndex := 15, descriptorIndex := 12, attributes := #[] }])
  fields := #[{ name := "observed", type := .long, accessFlags := 18, slot := 0, constantValue := 0 }, { name := "values", type := .long, accessFlags := 18, slot := 1, constantValue := 0 }]
  methods := #[k3m0, k3m1]
  instanceTypes := #[.long, .long]
  staticTypes := #[]
  resolved := Array.replicate 65 none
  statics := none }

def pool4 : Array CpInfo := pool [(1, .class_ 2), (0, u "java/io/Serializable"), (0, .class_ 4), (0, u "java/lang/Object")] 2

/-- java/io/Serializable -/
def k4 : Class := { plain "java/io/Serializable" (some 0) with
  accessFlags := 1537
  interfaces := #[]
  cf := some (fileOf pool4 1 #[] #[] 1537 3 #[] #[])
  fields := #[]
  methods := #[]
  instanceTypes := #[]
  staticTypes := #[]
  resolved := Array.replicate 7 none
  statics := none }

def pool5 : Array CpInfo := pool [(2, .class_ 4), (1, u "java/lang/Object"), (0, u "<init>"), (0, u "()V"), (1, .class_ 10), (1, u "java/lang/Number"), (2, .class_ 14), (0, u "java/io/Serializable"), (0, u "serialVersionUID"), (0, u "J")] 20

def k5m0 : Method := { name := "<init>", desc := "()V", sig := { parameters := [], returnType := none }, accessFlags := 1, code := none }
/-- java/lang/Number -/
def k5 : Class := { plain "java/lang/Number" (some 0) with
  accessFlags := 1057
  interfaces := #[4]
  cf := some (fileOf pool5 8 #[] #[{ accessFlags := 1, nameIndex := 5, descriptorIndex := 6, attributes := #[] }] 1057 2 #[13] #[{ accessFlags := 26, nameIndex := 15, descriptorIndex := 16, attributes := #[] }])
  fields := #[{ name := "serialVersionUID", type := .long, accessFlags := 26, slot := 0, constantValue := 0 }]
  methods := #[k5m0]
  instanceTypes := #[]
  staticTypes := #[.long]
  resolved := Array.replicate 37 none
  statics := none }

def pool6 : Array CpInfo := pool [(1, .class_ 2), (0, u "java/lang/Comparable"), (0, .class_ 4), (0, u "java/lang/Object")] 7

/-- java/lang/Comparable -/
def k6 : Class := { plain "java/lang/Comparable" (some 0) with
  accessFlags := 1537
  interfaces := #[]
  cf := some (fileOf pool6 1 #[] #[] 1537 3 #[] #[])
  fields := #[]
  methods := #[]
  instanceTypes := #[]
  staticTypes := #[]
  resolved := Array.replicate 12 none
  statics := none }

def pool7 : Array CpInfo := pool [(1, .class_ 2), (0, u "java/lang/constant/Constable"), (0, .class_ 4), (0, u "java/lang/Object")] 6

/-- java/lang/constant/Constable -/
def k7 : Class := { plain "java/lang/constant/Constable" (some 0) with
  accessFlags := 1537
  interfaces := #[]
  cf := some (fileOf pool7 1 #[] #[] 1537 3 #[] #[])
  fields := #[]
  methods := #[]
  instanceTypes := #[]
  staticTypes := #[]
  resolved := Array.replicate 11 none
  statics := none }

def pool8 : Array CpInfo := pool [(1, .class_ 2), (0, u "java/lang/constant/ConstantDesc"), (0, .class_ 4), (0, u "java/lang/Object")] 32

/-- java/lang/constant/ConstantDesc -/
def k8 : Class := { plain "java/lang/constant/ConstantDesc" (some 0) with
  accessFlags := 1537
  interfaces := #[]
  cf := some (fileOf pool8 1 #[] #[] 1537 3 #[] #[])
  fields := #[]
  methods := #[]
  instanceTypes := #[]
  staticTypes := #[]
  resolved := Array.replicate 37 none
  statics := none }

def pool9 : Array CpInfo := pool [(1, .class_ 2), (0, u "java/lang/Long"), (98, u "(J)I"), (133, .class_ 237), (1, u "java/lang/Long$LongCache"), (33, .class_ 272), (0, u "java/lang/Number"), (2, u "value"), (0, u "J"), (2, u "hashCode"), (81, u "TYPE"), (0, u "Ljava/lang/Class;"), (0, .class_ 364), (0, u "java/lang/Comparable"), (0, .class_ 366), (0, u "java/lang/constant/Constable"), (0, .class_ 368), (0, u "java/lang/constant/ConstantDesc"), (0, u "MIN_VALUE"), (1, u "MAX_VALUE"), (4, u "SIZE"), (0, u "I"), (1, u "BYTES"), (1, u "serialVersionUID")] 142

def k9c0 : Code := { maxStack := 5, maxLocals := 2, code := jdk_35_method_36_code, exceptionTable := #[], attributes := #[] }
def k9m0 : Method := { name := "hashCode", desc := "(J)I", sig := { parameters := [.long], returnType := some .int }, accessFlags := 9, code := some k9c0 }
/-- java/lang/Long -/
def k9 : Class := { plain "java/lang/Long" (some 5) with
  accessFlags := 49
  interfaces := #[6, 7, 8]
  cf := some (fileOf pool9 1 #[.nestMembers #[235]] #[{ accessFlags := 9, nameIndex := 279, descriptorIndex := 101, attributes := #[] }] 49 271 #[363, 365, 367] #[{ accessFlags := 25, nameIndex := 369, descriptorIndex := 276, attributes := #[] }, { accessFlags := 25, nameIndex := 371, descriptorIndex := 276, attributes := #[] }, { accessFlags := 25, nameIndex := 361, descriptorIndex := 362, attributes := #[] }, { accessFlags := 18, nameIndex := 275, descriptorIndex := 276, attributes := #[] }, { accessFlags := 25, nameIndex := 376, descriptorIndex := 377, attributes := #[] }, { accessFlags := 25, nameIndex := 379, descriptorIndex := 377, attributes := #[] }, { accessFlags := 26, nameIndex := 381, descriptorIndex := 276, attributes := #[] }])
  fields := #[{ name := "MIN_VALUE", type := .long, accessFlags := 25, slot := 0, constantValue := 0 }, { name := "MAX_VALUE", type := .long, accessFlags := 25, slot := 1, constantValue := 0 }, { name := "TYPE", type := (.object "java/lang/Class"), accessFlags := 25, slot := 2, constantValue := 0 }, { name := "value", type := .long, accessFlags := 18, slot := 0, constantValue := 0 }, { name := "SIZE", type := .int, accessFlags := 25, slot := 3, constantValue := 0 }, { name := "BYTES", type := .int, accessFlags := 25, slot := 4, constantValue := 0 }, { name := "serialVersionUID", type := .long, accessFlags := 26, slot := 5, constantValue := 0 }]
  methods := #[k9m0]
  instanceTypes := #[.long]
  staticTypes := #[.long, .long, (.object "java/lang/Class"), .int, .int, .long]
  resolved := Array.replicate 524 none
  statics := none }

def pool10 : Array CpInfo := pool [(1, u "java/lang/Cloneable"), (0, .class_ 1), (0, u "java/lang/Object"), (0, .class_ 3)] 3

/-- java/lang/Cloneable -/
def k10 : Class := { plain "java/lang/Cloneable" (some 0) with
  accessFlags := 1537
  interfaces := #[]
  cf := some (fileOf pool10 2 #[] #[] 1537 4 #[] #[])
  fields := #[]
  methods := #[]
  instanceTypes := #[]
  staticTypes := #[]
  resolved := Array.replicate 8 none
  statics := none }

/-- the primitive byte -/
def k11 : Class := { plain "byte" none with kind := .primitive 'B', accessFlags := 0x411 }
/-- [B -/
def k12 : Class := { plain "[B" (some 0) with kind := .array 11 .byte, interfaces := #[10, 4], accessFlags := 1041 }

/-- the primitive int -/
def k13 : Class := { plain "int" none with kind := .primitive 'I', accessFlags := 0x411 }
/-- [I -/
def k14 : Class := { plain "[I" (some 0) with kind := .array 13 .int, interfaces := #[10, 4], accessFlags := 1041 }

def heap : Heap := #[]
def classes : Array Class := #[k0, k1, k2, k3, k4, k5, k6, k7, k8, k9, k10, k11, k12, k13, k14]
def interned : List (Array UInt16 × Addr) := []
def slotsUsed : Nat := 0
def theMethod : MethodId := ⟨1, 1⟩
def args0 : Array Value := #[.long 5, .long 3, .int 1, .int 1]
def aboutOver (below : List Frame) : State where
  vm := { classes := classes, interned := interned.toArray }
  heap := heap
  slotsUsed := slotsUsed
  threads := #[{ frames := .invoking theMethod args0 :: below }]
def below0 : List Frame := [.native { method := ⟨0, 0⟩, args := #[] }]
def about1 : State := aboutOver below0
def p0 : Program := .bare "" "" ""
def e0 : Env := launch0.env 0 0 0
theorem w_frames : about1.frames = Frame.invoking theMethod args0 :: below0 := rfl
set_option maxRecDepth 65536 in
theorem w_args : argsFit about1.vm theMethod args0 = true := by decide +kernel
set_option maxRecDepth 65536 in
theorem w_heap : heapFits about1 = true := by decide +kernel
set_option maxRecDepth 65536 in
theorem w_runnable : about1.curStatus? = some .runnable := by decide +kernel
set_option maxRecDepth 65536 in
theorem w_alone : about1.alone = true := by decide +kernel
set_option maxRecDepth 65536 in
theorem w_named : about1.methodNamed? x = some theMethod := by decide +kernel
set_option maxRecDepth 65536 in
theorem w_hears : about1.hears theMethod below0 = true := by decide +kernel
set_option maxRecDepth 65536 in
theorem w_ripe : about1.ripe theMethod args0 below0 = true := by decide +kernel
theorem w_running : about1.status = .running := rfl
set_option maxRecDepth 65536 in
theorem w_room : about1.hasRoom e0.platform room_1 = true :=
  launch0.hasRoom_least _ room_1 (by decide +kernel) (by decide +kernel) (by decide +kernel) (by decide +kernel) (by decide +kernel) (by decide +kernel)
theorem allAtoms_all (ts : List Jvm.Cond) (a : Array Jvm.Value) (st : Jvm.State) : (allAtoms ts).before a st = ts.all (fun c => c.before a st) := by
  induction ts with
  | nil => rfl
  | cons c t ih =>
    show (Jvm.Cond.and c (allAtoms t)).before a st = _
    rw [Jvm.Cond.before_and, ih, List.all_cons]
def words1 : List Jvm.Cond := Jvm.Cond.code x code maxLocals ret :: tables_1
/-- a 'code' word, met by the world's own term for the bytes: nothing is compared byte by byte -/
theorem code_word {y : MethodName} {bytes : ByteArray} {mx : Nat} {rt : Option FieldType} {a : Array Value} {s : State} {m : MethodId} {meth : Method} {c : Code} (h1 : s.methodNamed? y = some m) (h2 : s.vm.method? m = some meth) (h3 : meth.code = some c) (h4 : c.code = bytes)
    (h5 : (c.maxLocals == mx && c.exceptionTable.isEmpty && decide (c.maxStack ≤ mostOperands) && decide (meth.sig.returnType = rt) && !meth.locks && decide (parseMethodDescriptor y.desc = some meth.sig)) = true) : (Jvm.Cond.code y bytes mx rt).before a s = true := by
  simp only [Bool.and_eq_true, beq_iff_eq, Bool.not_eq_true', decide_eq_true_eq] at h5
  obtain ⟨⟨⟨⟨⟨g1, g2⟩, g3⟩, g4⟩, g5⟩, g6⟩ := h5
  simp [Cond.before, Cond.holds, Cond.value, h1, h2, h3, h4, g1, g2, g3, g4, g5, g6]
def isCode : Jvm.Cond → Bool
  | .code _ _ _ _ => true
  | _ => false
theorem all_split {L : List Jvm.Cond} {P : Jvm.Cond → Bool} (h1 : L.all (fun c => isCode c || P c) = true) (h2 : ∀ c ∈ L.filter isCode, P c = true) : L.all P = true := by
  refine List.all_eq_true.mpr fun c hc => ?_
  have h := List.all_eq_true.mp h1 c hc
  rcases Bool.eq_false_or_eq_true (isCode c) with hi | hi
  · exact h2 c (List.mem_filter.mpr ⟨hc, hi⟩)
  · simpa [hi] using h
set_option maxRecDepth 65536 in
theorem w_c0 : (Jvm.Cond.code x code maxLocals ret).before args0 about1 = true := code_word (m := ⟨1, 1⟩) (meth := k1m1) (c := k1c1) (by decide +kernel) rfl rfl rfl (by decide +kernel)
set_option maxRecDepth 65536 in
theorem w_c1 : (Jvm.Cond.code ({ cls := "com/example/epsilonet/epsilonet/service/ObservationTree$Outcome", name := "<init>", desc := "(JJ)V" } : Jvm.MethodName) prog_38_method_1_code (5 : Nat) (Option.none : Option Jvm.ClassFile.FieldType)).before args0 about1 = true := code_word (m := ⟨3, 0⟩) (meth := k3m0) (c := k3c0) (by decide +kernel) rfl rfl rfl (by decide +kernel)
set_option maxRecDepth 65536 in
theorem w_c2 : (Jvm.Cond.code ({ cls := "java/lang/Record", name := "<init>", desc := "()V" } : Jvm.MethodName) jdk_30_method_1_code (1 : Nat) (Option.none : Option Jvm.ClassFile.FieldType)).before args0 about1 = true := code_word (m := ⟨2, 0⟩) (meth := k2m0) (c := k2c0) (by decide +kernel) rfl rfl rfl (by decide +kernel)
set_option maxRecDepth 65536 in
theorem w_c3 : (Jvm.Cond.code ({ cls := "java/lang/Object", name := "<init>", desc := "()V" } : Jvm.MethodName) object_method_1_code (1 : Nat) (Option.none : Option Jvm.ClassFile.FieldType)).before args0 about1 = true := code_word (m := ⟨0, 0⟩) (meth := k0m0) (c := k0c0) (by decide +kernel) rfl rfl rfl (by decide +kernel)
set_option maxRecDepth 65536 in
theorem w_c4 : (Jvm.Cond.code ({ cls := "com/example/epsilonet/epsilonet/service/ObservationTree$Outcome", name := "hashCode", desc := "()I" } : Jvm.MethodName) prog_38_method_4_code (1 : Nat) (Option.some Jvm.ClassFile.FieldType.int)).before args0 about1 = true := code_word (m := ⟨3, 1⟩) (meth := k3m1) (c := k3c1) (by decide +kernel) rfl rfl rfl (by decide +kernel)
set_option maxRecDepth 65536 in
theorem w_c5 : (Jvm.Cond.code ({ cls := "java/lang/Long", name := "hashCode", desc := "(J)I" } : Jvm.MethodName) jdk_35_method_36_code (2 : Nat) (Option.some Jvm.ClassFile.FieldType.int)).before args0 about1 = true := code_word (m := ⟨9, 0⟩) (meth := k9m0) (c := k9c0) (by decide +kernel) rfl rfl rfl (by decide +kernel)
def codes1 : List Jvm.Cond := [Jvm.Cond.code x code maxLocals ret, Jvm.Cond.code ({ cls := "com/example/epsilonet/epsilonet/service/ObservationTree$Outcome", name := "<init>", desc := "(JJ)V" } : Jvm.MethodName) prog_38_method_1_code (5 : Nat) (Option.none : Option Jvm.ClassFile.FieldType), Jvm.Cond.code ({ cls := "java/lang/Record", name := "<init>", desc := "()V" } : Jvm.MethodName) jdk_30_method_1_code (1 : Nat) (Option.none : Option Jvm.ClassFile.FieldType), Jvm.Cond.code ({ cls := "java/lang/Object", name := "<init>", desc := "()V" } : Jvm.MethodName) object_method_1_code (1 : Nat) (Option.none : Option Jvm.ClassFile.FieldType), Jvm.Cond.code ({ cls := "com/example/epsilonet/epsilonet/service/ObservationTree$Outcome", name := "hashCode", desc := "()I" } : Jvm.MethodName) prog_38_method_4_code (1 : Nat) (Option.some Jvm.ClassFile.FieldType.int), Jvm.Cond.code ({ cls := "java/lang/Long", name := "hashCode", desc := "(J)I" } : Jvm.MethodName) jdk_35_method_36_code (2 : Nat) (Option.some Jvm.ClassFile.FieldType.int)]
set_option maxRecDepth 65536 in
theorem codes_eq : words1.filter isCode = codes1 := rfl
theorem w_codes : ∀ c ∈ words1.filter isCode, c.before args0 about1 = true := by
  rw [codes_eq]
  intro c hc
  simp only [codes1, List.mem_cons, List.not_mem_nil, or_false] at hc
  rcases hc with rfl | rfl | rfl | rfl | rfl | rfl
  · exact w_c0
  · exact w_c1
  · exact w_c2
  · exact w_c3
  · exact w_c4
  · exact w_c5
set_option maxRecDepth 65536 in
theorem w_t1 : (words1.take 24).all (fun c => isCode c || c.before args0 about1) = true := by decide +kernel
set_option maxRecDepth 65536 in
theorem w_t2 : (words1.drop 24).all (fun c => isCode c || c.before args0 about1) = true := by decide +kernel
theorem w_tables : (allAtoms (Jvm.Cond.code x code maxLocals ret :: tables_1)).before args0 about1 = true := by
  rw [allAtoms_all]
  show words1.all (fun c => c.before args0 about1) = true
  refine all_split ?_ w_codes
  rw [← List.take_append_drop 24 words1, List.all_append, w_t1, w_t2]
  rfl
set_option maxRecDepth 65536 in
theorem w_case : (Jvm.Cond.and given_1 narrow_1).before args0 about1 = true := by decide +kernel
theorem w_applies : (headSpec (Jvm.Cond.code x code maxLocals ret :: tables_1) room_1).applies x e0.platform about1 = true :=
  (Spec.applies_iff w_frames).mpr ⟨w_running, w_runnable, w_alone, w_named, w_hears, w_ripe, w_room, w_tables⟩
theorem atStart : AtStart classFile x code maxLocals ret World_1 tables_1 room_1 Calls_1 rest_1 Pre_1 launch0 p0 e0 about1 theMethod args0 below0 :=
  ⟨lists_1, trivial, launch0.admits_env _ _ _, launch0.least_env, fairChoices_fair.cas, fairChoices_fair.clock, w_frames, w_args, w_heap, w_applies, trivial, trivial, w_case⟩
end start1
theorem witness_1 : WitnessClaimed_1 := ⟨start1.p0, start1.e0, start1.about1, start1.theMethod, start1.args0, start1.below0, start1.atStart⟩
end Jvm.Pilot.@@N@@
