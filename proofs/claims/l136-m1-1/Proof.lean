import JvmDerived
import JvmDerived.Pilot.@@N@@Statement
import JvmDerived.Pilot.@@N@@Code
set_option linter.unusedVariables false
set_option linter.unusedSimpArgs false
namespace Jvm.Pilot.@@N@@
open Jvm Jvm.ClassFile Sem Op Lib Jvm.Free Jvm.Stand Jvm.LawKit Jvm.RoadKit Bundle Jvm.Pilot.@@N@@.Jvm.D
def own_Go (tb : Tables) (e : Env) (below : List Frame) (P : State → Outcome → Prop) (T : State) (g : JFrame) : Prop := ∃ t o, Steps tb e below (T.setTop g) t ∧ P t o
theorem own_go {tb : Tables} {e : Env} {below : List Frame} {P : State → Outcome → Prop} {T T' : State} {g g' : JFrame} (k : ∀ target, Steps tb e below (T'.setTop g') target → Steps tb e below (T.setTop g) target) (h : own_Go tb e below P T' g') : own_Go tb e below P T g := by
  obtain ⟨t, o, a, b⟩ := h
  exact ⟨t, o, k t a, b⟩
theorem own_cast {P Q : Prop} (h : P = Q) (p : P) : Q := h ▸ p
def own_upd (f : Nat → Value) (k : Nat) (v : Value) : Nat → Value := fun i => if i = k then v else f i
/-- an array of length z at a, its element i being f i -/
def own_AV (Z : State) (h : Heap) (a : Addr) (ty : FieldType) (z : Int32) (f : Nat → Value) : Prop := ¬ z < 0 ∧ ∃ c : Cell, Arr Z h a c ty ∧ c.slots.size = z.toNatClampNeg ∧ ∀ i, i < c.slots.size → c.slots[i]? = some (f i)
section
variable {Z : State} {h h' : Heap} {a b : Addr} {ty : FieldType} {z j : Int32} {f : Nat → Value} {v w : Value} {sl k : Nat} {ws : List Addr} {cA : ClassId}
theorem own_AV.lt (F : own_AV Z h a ty z f) : a < h.size := by obtain ⟨_, c, A, -⟩ := F; exact A.lt
theorem own_AV.ext (F : own_AV Z h a ty z f) (E : Ext h h') : own_AV Z h' a ty z f := by obtain ⟨q, c, A, r⟩ := F; exact ⟨q, c, A.ext E, r⟩
theorem own_AV.other (F : own_AV Z h b ty z f) (W : Wr h h' a sl v) (q : b ≠ a) : own_AV Z h' b ty z f := by obtain ⟨q1, c, A, r⟩ := F; exact ⟨q1, c, A.other W q, r⟩
theorem own_AV.keep (F : own_AV Z h a ty z f) (K : Keep h h' ws) (q : a ∉ ws) : own_AV Z h' a ty z f := by obtain ⟨q1, c, A, r⟩ := F; exact ⟨q1, c, ⟨K.2.1 a c A.1 q, A.2⟩, r⟩
theorem own_AV.new (A : Arr Z h a (newA cA ty z) ty) (q : ¬ z < 0) : own_AV Z h a ty z (fun _ => defaultValue ty) :=
  ⟨q, _, A, sz_new _ _ _, fun i hi => by
    rw [sz_new] at hi
    simp [newA, hi]⟩
theorem own_AV.set (F : own_AV Z h a ty z f) (W : Wr h h' a j.toNatClampNeg v) (hk : j.toNatClampNeg = k) : own_AV Z h' a ty z (own_upd f k v) := by
  obtain ⟨q, c, A, s, t⟩ := F
  subst hk
  refine ⟨q, _, A.same W, by rw [sz_set]; exact s, fun i hi => ?_⟩
  rw [sz_set] at hi
  by_cases e : i = j.toNatClampNeg
  · subst e; simp [own_upd, Cell.setSlot, hi]
  · simp only [own_upd, if_neg e, Cell.setSlot]
    rw [Array.getElem?_setIfInBounds_ne (Ne.symm e)]; exact t i hi
theorem own_at {c : Cell} (t : ∀ i, i < c.slots.size → c.slots[i]? = some (f i)) (s : c.slots.size = z.toNatClampNeg) (hin : ¬ (j < 0 ∨ c.slots.size ≤ j.toNatClampNeg)) (hk : j.toNatClampNeg = k) (hv : f k = v) : c.slots[j.toNatClampNeg]? = some v := by
  rw [t _ (Nat.lt_of_not_le fun q => hin (Or.inr q)), hk, hv]
theorem own_sta_keep {C n d : String} (F : Sta Z h C n d w) (K : Keep h h' ws) (q : ∀ x ∈ ws, ∀ c : Cell, h[x]? = some c → c.vm.isStatics = false) : Sta Z h' C n d w := by
  obtain ⟨cf, i, k, f, st, cell, h1, h2, h3, h4, h5, h6, h7⟩ := F
  exact ⟨cf, i, k, f, st, cell, h1, h2, h3, h4, K.2.1 st cell h5 (fun m => by rw [q st m cell h5] at h6; cases h6), h6, h7⟩
theorem own_exa_plain {C : String} (F : Exa Z h a C) : ∀ c : Cell, h[a]? = some c → c.vm.isStatics = false := fun c hc => by
  obtain ⟨c1, k, h1, -, -, h4, -⟩ := F; cases h1.symm.trans hc; exact h4
theorem own_AV.plain (F : own_AV Z h a ty z f) : ∀ c : Cell, h[a]? = some c → c.vm.isStatics = false := fun c hc => by
  obtain ⟨_, c1, A, -⟩ := F; cases A.1.symm.trans hc; exact A.plain
end
theorem own_narb {x : Int32} (h : x = 0 ∨ x = 1) : nar .boolean x = x := by rcases h with rfl | rfl <;> rfl
theorem own_exa_ref {args : Array Value} {s : State} {t : Term} {C : String} (hx : (Jvm.Cond.exactly t C).value args s none s [] = some true) : ∃ a, t.eval args s none [] s = some (.ref a) ∧ Exa s s.heap a C := by
  obtain ⟨a', c', cell, k, e1, -⟩ := Cond.exactly_spec (Cond.before_iff.mpr hx)
  exact ⟨a', e1, Exa.start e1 hx⟩
theorem own_eq_int {args : Array Value} {s : State} {t : Term} {k : Int32} (h : (Jvm.Cond.eq t (Jvm.Term.int k)).value args s none s [] = some true) : t.eval args s none [] s = some (.int k) := by
  cases hv : t.eval args s none [] s with
  | none => simp [Cond.value, hv] at h
  | some v => cases v <;> simp [Cond.value, hv, Term.eval] at h <;> simp [h]
theorem own_fld_int {args : Array Value} {s : State} {t : Term} {C n d : String} {a : Addr} {k : Int32} (ev : t.eval args s none [] s = some (.ref a)) (h : (Jvm.Cond.eq (Jvm.Term.field t C n d) (Jvm.Term.int k)).value args s none s [] = some true) : Fld s s.heap a C n d (.int k) :=
  Fld.start ((fld_at ev).symm.trans (own_eq_int h))
theorem own_nar_c (x : Int32) : nar .char (x.toUInt32.toUInt16.toUInt32.toInt32) = x.toUInt32.toUInt16.toUInt32.toInt32 := Value.int.inj (Jvm.Free.XT.narrow_c x)
theorem own_nar_b (x : Int32) : nar .byte (x.toInt8.toInt32) = x.toInt8.toInt32 := Value.int.inj (Jvm.Free.XT.narrow_b x)
theorem own_NSroot {Z : State} {a0 : Array Value} {O K : String} {n : Nat} (w : (Jvm.Cond.noSuperclass O).before a0 Z = true) (wk : (Jvm.Cond.instantiable K n).before a0 Z = true) (hn : O ≠ K) : NS Z O K := by
  obtain ⟨c, k, h1, h2, h3, -, -⟩ := Cond.noSuperclass_spec w
  obtain ⟨t, kt, g1, -⟩ := Cond.instantiable_spec wk
  have ne := ids_ne h1 g1 hn
  refine ⟨c, t, h1, g1, fun fuel => ?_⟩
  cases fuel with
  | zero => rfl
  | succ f => simp [Vm.isSubclassAux, ne, h2, h3]
theorem own_NSno {Z : State} {a0 : Array Value} {C S K : String} {m : Nat} (w : (Jvm.Cond.superclass C S).before a0 Z = true) (wk : (Jvm.Cond.instantiable K m).before a0 Z = true) (n : NS Z C K) (hn : C ≠ K) : ∃ c t, Z.vm.findClass C = some c ∧ Z.vm.findClass K = some t ∧ Z.vm.assignable c t = false := by
  obtain ⟨c, t, h0, g0, n3⟩ := n
  obtain ⟨p, k, kp, h1, h2, h3, h4, h5, -, h7⟩ := Cond.superclass_spec h0 w
  obtain ⟨t', k', g1, g2, g5, g7, -⟩ := Cond.instantiable_spec wk
  cases g0.symm.trans g1
  have g8 : k'.isInterface = false := by
    cases hi : k'.isInterface <;> simp [hi] at g7 ⊢
  have ne := ids_ne h0 g0 hn
  refine ⟨c, t, h0, g0, ?_⟩
  show Z.vm.assignableAux (255 + 1) c t = false
  simp [Vm.assignableAux, ne, h2, g2, h5, g5, g8, Vm.isSubclass, n3]
theorem own_monoW {s t : State} {o : Outcome} {L : List Loc} {k n k' n' : Nat} (h : ReturnedEndW s o t L k n) (hk : k ≤ k') (hn : n ≤ n') : ReturnedEndW s o t L k' n' := ⟨h.1, h.2.1, h.2.2.1, h.2.2.2.mono hk hn⟩
theorem own_ldcSL {p : Program} {l : Launch} {e : Env} {R : Room} {s : State} {vm0 : Vm} {m : MethodId} {args : Array Value} {below : List Frame} {meth : Method} {c : Code} {T : State} {locs : List Loc} {cells slots : Nat} {Z : State} {a0 : Array Value} {h : Heap}
    (X : Stand p l e R (s.setVm vm0) m args below meth c T locs cells slots) (hx : p.tables.exec = Jvm.exec) (hZ : Z.Warmed39 vm0) {own text : String} {index : Nat} (hown : vm0.findClass own = some m.cls) (w : (Jvm.Cond.stringLink own index text).before a0 Z = true) (wS : ∀ a ∈ Bundle.stringAtoms, a.before a0 Z = true)
    (eT : T.heap = h) {k0 : Nat} (hS : s.Since vm0 k0) (hk : k0 ≤ h.size) {g : JFrame} (hg : g.method = m) (hd : decode c.code g.pc = .ok (.ldc index, 2)) {n : Nat} (hn : 4 * text.toList.length ≤ n) (hbig : n ≤ 536870912) (hc : cells + 2 ≤ R.cells) (hl : slots + (n + 4) ≤ R.slots) :
    ∃ (a : Addr) (T' : State) (h' : Heap) (k1 : Nat), Stand p l e R (s.setVm T'.vm) m args below meth c T' locs (cells + 2) (slots + (n + 4)) ∧ T'.heap = h' ∧ Ext h h' ∧ s.Since T'.vm k1 ∧ k1 ≤ h'.size ∧ Z.Warmed39 (s.setVm T'.vm).vm ∧ (s.setVm T'.vm).vm.findClass own = some m.cls ∧ Lit (s.setVm T'.vm) own index a ∧ (s.setVm vm0).Warmed39 T'.vm ∧
      ∀ target, Steps p.tables e below (T'.setTop { g with pc := g.pc + 2, stack := .ref a :: g.stack }) target → Steps p.tables e below (T.setTop g) target := by
  have wS' : ∀ d ∈ Bundle.stringAtoms, d.before args (s.setVm vm0) = true := fun d hd => by
    have q := wS d hd
    simp only [Bundle.stringAtoms, List.mem_cons, List.not_mem_nil, or_false] at hd
    rcases hd with rfl | rfl | rfl | rfl | rfl | rfl | rfl
    · exact mv (s := s.setVm vm0) hZ q
    · exact mv (s := s.setVm vm0) hZ q
    · exact mvA (s := s.setVm vm0) hZ q
    · exact mv (s := s.setVm vm0) hZ q
    · exact mv (s := s.setVm vm0) hZ q
    · exact mv (s := s.setVm vm0) hZ q
    · exact mv (s := s.setVm vm0) hZ q
  obtain ⟨a, T', X', hS', ⟨kk, hkk, hrr⟩, hb, -, st⟩ := X.ldcStringCold hx (own := own) hown (mvS hZ w) wS' hg hd hn hbig hc hl
  subst eT
  have hf : T'.vm.findClass own = some m.cls := by rw [hS'.1.alike.findClass]; exact hown
  exact ⟨a, T', _, _, X', rfl, ext_of hb, hS.trans hS' (Nat.le_trans hk (ext_of hb).1), Nat.le_refl _, State.Warmed39.trans (t := s.setVm vm0) hZ hS'.1, hf, by simp [Lit, State.resolvedAt?, hf, hkk, hrr], hS'.1, st⟩
theorem own_selfsel {Z s : State} {a0 args : Array Value} {y : MethodName} {n : Nat} (hZ : Z.Warmed39 s.vm) (wi : (Jvm.Cond.instantiable y.cls n).before a0 Z = true) (wm : (Jvm.Cond.instanceMethod y).before a0 Z = true) (wp : (Jvm.Cond.privateMethod y).before a0 Z = true) (hy : y.cls ≠ "java/lang/invoke/MethodHandle" ∧ y.cls ≠ "java/lang/invoke/VarHandle") : (Jvm.Cond.selects y.cls y y).before args s = true := by
  obtain ⟨c, k, h1, h2, -, h4, -⟩ := Cond.instantiable_spec (mvT (args := args) hZ wi)
  have g8 : k.isInterface = false := by
    cases hi : k.isInterface <;> simp [hi] at h4 ⊢
  exact selects_self_of_private h1 h2 g8 (Cond.privateMethod_at (mvP hZ wp (args := #[]))) (mvT hZ wm) hy

theorem own_pn0 : plainName "java/lang/Record" = true := by first | (simp [plainName, overriddenIn]; done) | decide +kernel
theorem own_pn1 : plainName "com/example/tessera/tessera/IntType" = true := by first | (simp [plainName, overriddenIn]; done) | decide +kernel
theorem own_pn2 : plainName "com/example/tessera/tessera/IntTypeFixedSizePinLaw" = true := by first | (simp [plainName, overriddenIn]; done) | decide +kernel
theorem own_pd0 : parseMethodDescriptor "()V" = some ⟨[], none⟩ := by decide +kernel
theorem own_pd1 : parseMethodDescriptor "(IZ)V" = some ⟨[.int, .boolean], none⟩ := by decide +kernel
theorem own_pd2 : parseMethodDescriptor "()I" = some ⟨[], some .int⟩ := by decide +kernel
theorem own_d2_0 : decode jdk_30_method_1_code 0 = .ok (.aload_n 0, 1) := by decide +kernel
theorem own_d2_1 : decode jdk_30_method_1_code 1 = .ok (.invokespecial 1, 3) := by decide +kernel
theorem own_d2_4 : decode jdk_30_method_1_code 4 = .ok (.return_, 1) := by decide +kernel
theorem own_ef_own_rm2 (m : MethodId) (x0 : Addr) : entryFrame m #[(.ref x0)] 1 = mkF m 0 #[.val (.ref x0)] [] := by first | (simp [entryFrame, mkF, argsToLocals, Value.category]; done) | rfl
def own_Q2 (Z : State) (a_1 : Addr) (h0 : Heap) (n0 : Nat) (v : Option Value) (h : Heap) (L : List Loc) : Prop := v = none ∧ Fr n0 L ∧ h = h0
set_option maxRecDepth 65536 in
set_option maxHeartbeats 40000000 in
theorem own_rm2 (l : Launch) (Z : State) (a0 : Array Value) (hw : ∀ d ∈ tables_1, d.before a0 Z = true) (ws : List Jvm.Cond) (a_1 : Addr) (h0 : Heap) (n0 : Nat) (Z0 : n0 ≤ h0.size) :
    MetFree l (⟨"java/lang/Record", "<init>", "()V"⟩ : MethodName) (head1 (Jvm.Cond.code (⟨"java/lang/Record", "<init>", "()V"⟩ : MethodName) jdk_30_method_1_code 1 none :: ws) ({ frames := 1, cells := 0, slots := 0, locals := 12 } : Room)) (fun a U => a = #[(.ref a_1)] ∧ Z.Warmed39 U.vm ∧ U.heap = h0) (fun _ _ _ _ _ => True) (fun _ U o U' => ∃ v L, o = .returned v ∧ own_Q2 Z a_1 h0 n0 v U'.heap L ∧ FrameEnd U o U' L ({ frames := 1, cells := 0, slots := 0, locals := 12 } : Room).cells ({ frames := 1, cells := 0, slots := 0, locals := 12 } : Room).slots) := by
  refine MetFree.of_bodySF (plainFor_of_name own_pn0) hisR ?_
  intro p e s m args below meth c s₁ Bd hml0 hP hK
  obtain ⟨rfl, hZ, hh⟩ := hP
  have hx := Bd.exec
  have hby := Bd.bytes
  have hml : c.maxLocals = 1 := hml0
  have hown : s.vm.findClass "java/lang/Record" = some m.cls := findClass_of_methodNamed Bd.named
  have hnm := (name_of_methodNamed Bd.named Bd.method).1
  have X0 : Stand p l e ({ frames := 1, cells := 0, slots := 0, locals := 12 } : Room) s m #[(.ref a_1)] below meth c s₁ [] 0 0 := Stand.of_body Bd
  have e0 : s₁.heap = h0 := by rw [← hh, Bd.state]; rfl
  have N0 := Fr.nil n0
  have z0 : n0 ≤ h0.size := Z0
  show own_Go p.tables e below (fun t o => t.status = .running ∧ Ended t below o ∧ ∃ v L, o = .returned v ∧ own_Q2 Z a_1 h0 n0 v t.heap L ∧ FrameEnd s o t L ({ frames := 1, cells := 0, slots := 0, locals := 12 } : Room).cells ({ frames := 1, cells := 0, slots := 0, locals := 12 } : Room).slots) s₁ (entryFrame m #[(.ref a_1)] 1)
  rw [own_ef_own_rm2 m a_1]
  show own_Go _ _ _ _ s₁ (mkF m 0 #[.val (.ref a_1)] [])
  refine own_go (fun _ k => XS.aloadN X0.here hx rfl (hb hby own_d2_0) rfl rfl k) ?_
  show own_Go _ _ _ _ s₁ (mkF m 1 #[.val (.ref a_1)] [(.ref a_1)])
  obtain ⟨T1, X1, e1, st1⟩ := initO X0 hx hZ hown (hw _ (List.mem_of_getElem? (i := 12) rfl)) (hw _ (List.mem_of_getElem? (i := 13) rfl)) (hw _ (List.mem_of_getElem? (i := 14) rfl)) e0 (g := (mkF m 1 #[.val (.ref a_1)] [(.ref a_1)])) rfl (by rw [hml]; rfl) rfl (hb hby own_d2_1) (by decide) (W := 0) (by show 2 * 0 + _ ≤ _; exact Nat.le_of_eq rfl) (by decide)
  refine own_go (fun _ k => st1 _ k) ?_
  show own_Go _ _ _ _ T1 (mkF m 4 #[.val (.ref a_1)] [])
  obtain ⟨fs, hr, hrun, hended, hW, hsame⟩ := X1.leave (v := none) (fun _ => rfl)
  refine ⟨_, _, X1.returnOut hx Bd.returns (hb hby own_d2_4) hr, hrun, hended, _, _, rfl, ?_, ⟨_, rfl⟩, hW, hsame.mono (by decide) (by decide)⟩
  show own_Q2 Z a_1 h0 n0 _ T1.heap _
  rw [e1]
  exact ⟨rfl, N0, rfl⟩
theorem own_d1_0 : decode prog_21_method_1_code 0 = .ok (.aload_n 0, 1) := by decide +kernel
theorem own_d1_1 : decode prog_21_method_1_code 1 = .ok (.invokespecial 1, 3) := by decide +kernel
theorem own_d1_4 : decode prog_21_method_1_code 4 = .ok (.iload_n 1, 1) := by decide +kernel
theorem own_d1_5 : decode prog_21_method_1_code 5 = .ok (.iconst 1, 1) := by decide +kernel
theorem own_d1_6 : decode prog_21_method_1_code 6 = .ok (.if_icmp .eq 41, 3) := by decide +kernel
theorem own_d1_9 : decode prog_21_method_1_code 9 = .ok (.iload_n 1, 1) := by decide +kernel
theorem own_d1_10 : decode prog_21_method_1_code 10 = .ok (.bipush 8, 2) := by decide +kernel
theorem own_d1_12 : decode prog_21_method_1_code 12 = .ok (.if_icmp .eq 35, 3) := by decide +kernel
theorem own_d1_15 : decode prog_21_method_1_code 15 = .ok (.iload_n 1, 1) := by decide +kernel
theorem own_d1_16 : decode prog_21_method_1_code 16 = .ok (.bipush 16, 2) := by decide +kernel
theorem own_d1_18 : decode prog_21_method_1_code 18 = .ok (.if_icmp .eq 29, 3) := by decide +kernel
theorem own_d1_21 : decode prog_21_method_1_code 21 = .ok (.iload_n 1, 1) := by decide +kernel
theorem own_d1_22 : decode prog_21_method_1_code 22 = .ok (.bipush 32, 2) := by decide +kernel
theorem own_d1_24 : decode prog_21_method_1_code 24 = .ok (.if_icmp .eq 23, 3) := by decide +kernel
theorem own_d1_27 : decode prog_21_method_1_code 27 = .ok (.iload_n 1, 1) := by decide +kernel
theorem own_d1_28 : decode prog_21_method_1_code 28 = .ok (.bipush 64, 2) := by decide +kernel
theorem own_d1_30 : decode prog_21_method_1_code 30 = .ok (.if_icmp .eq 17, 3) := by decide +kernel
theorem own_d1_47 : decode prog_21_method_1_code 47 = .ok (.aload_n 0, 1) := by decide +kernel
theorem own_d1_48 : decode prog_21_method_1_code 48 = .ok (.iload_n 1, 1) := by decide +kernel
theorem own_d1_49 : decode prog_21_method_1_code 49 = .ok (.putfield 16, 3) := by decide +kernel
theorem own_d1_52 : decode prog_21_method_1_code 52 = .ok (.aload_n 0, 1) := by decide +kernel
theorem own_d1_53 : decode prog_21_method_1_code 53 = .ok (.iload_n 2, 1) := by decide +kernel
theorem own_d1_54 : decode prog_21_method_1_code 54 = .ok (.putfield 22, 3) := by decide +kernel
theorem own_d1_57 : decode prog_21_method_1_code 57 = .ok (.return_, 1) := by decide +kernel
theorem own_ef_own_rm1 (m : MethodId) (x0 : Addr) (x1 : Int32) (x2 : Int32) : entryFrame m #[(.ref x0), (.int x1), (.int x2)] 3 = mkF m 0 #[.val (.ref x0), .val (.int x1), .val (.int x2)] [] := by first | (simp [entryFrame, mkF, argsToLocals, Value.category]; done) | rfl
set_option maxRecDepth 65536 in
set_option maxHeartbeats 4000000 in
theorem own_t1_0 (p_2 : Int32) (hbb : p_2 = 1 ∨ p_2 = 8 ∨ p_2 = 16 ∨ p_2 = 32 ∨ p_2 = 64) (hc5 : ¬ (p_2 = (1 : Int32))) (hc15 : ¬ (p_2 = (8 : Int32))) (hc25 : ¬ (p_2 = (16 : Int32))) (hc35 : ¬ (p_2 = (32 : Int32))) : p_2 = (64 : Int32) := by
  grind
def own_Q1 (Z : State) (a_1 : Addr) (p_2 : Int32) (p_3 : Int32) (w_bits_a_1 : Int32) (w_signed_a_1 : Int32) (h0 : Heap) (n0 : Nat) (v : Option Value) (h : Heap) (L : List Loc) : Prop := v = none ∧ Fr n0 L ∧ Keep h0 h [a_1] ∧ Exa Z h a_1 "com/example/tessera/tessera/IntType" ∧ Fld Z h a_1 "com/example/tessera/tessera/IntType" "bits" "I" (.int p_2) ∧ Fld Z h a_1 "com/example/tessera/tessera/IntType" "signed" "Z" (.int (nar .boolean p_3))
set_option maxRecDepth 65536 in
set_option maxHeartbeats 40000000 in
theorem own_rm1 (l : Launch) (Z : State) (a0 : Array Value) (hw : ∀ d ∈ tables_1, d.before a0 Z = true) (ws : List Jvm.Cond) (a_1 : Addr) (p_2 : Int32) (p_3 : Int32) (w_bits_a_1 : Int32) (w_signed_a_1 : Int32) (h0 : Heap) (n0 : Nat) (Z0 : n0 ≤ h0.size) (hbb : p_2 = 1 ∨ p_2 = 8 ∨ p_2 = 16 ∨ p_2 = 32 ∨ p_2 = 64) (pr_E_a_1 : Exa Z h0 a_1 "com/example/tessera/tessera/IntType") (pr_F_a_1_bits : Fld Z h0 a_1 "com/example/tessera/tessera/IntType" "bits" "I" (.int w_bits_a_1)) (pr_F_a_1_signed : Fld Z h0 a_1 "com/example/tessera/tessera/IntType" "signed" "Z" (.int w_signed_a_1)) (gw_a_1 : n0 ≤ a_1) :
    MetFree l (⟨"com/example/tessera/tessera/IntType", "<init>", "(IZ)V"⟩ : MethodName) (head1 (Jvm.Cond.code (⟨"com/example/tessera/tessera/IntType", "<init>", "(IZ)V"⟩ : MethodName) prog_21_method_1_code 3 none :: ws) ({ frames := 2, cells := 0, slots := 0, locals := 24 } : Room)) (fun a U => a = #[(.ref a_1), (.int p_2), (.int p_3)] ∧ Z.Warmed39 U.vm ∧ U.heap = h0) (fun _ _ _ _ _ => True) (fun _ U o U' => ∃ v L, o = .returned v ∧ own_Q1 Z a_1 p_2 p_3 w_bits_a_1 w_signed_a_1 h0 n0 v U'.heap L ∧ FrameEnd U o U' L ({ frames := 2, cells := 0, slots := 0, locals := 24 } : Room).cells ({ frames := 2, cells := 0, slots := 0, locals := 24 } : Room).slots) := by
  refine MetFree.of_bodySF (plainFor_of_name own_pn1) hisR ?_
  intro p e s m args below meth c s₁ Bd hml0 hP hK
  obtain ⟨rfl, hZ, hh⟩ := hP
  have hx := Bd.exec
  have hby := Bd.bytes
  have hml : c.maxLocals = 3 := hml0
  have hown : s.vm.findClass "com/example/tessera/tessera/IntType" = some m.cls := findClass_of_methodNamed Bd.named
  have hnm := (name_of_methodNamed Bd.named Bd.method).1
  have X0 : Stand p l e ({ frames := 2, cells := 0, slots := 0, locals := 24 } : Room) s m #[(.ref a_1), (.int p_2), (.int p_3)] below meth c s₁ [] 0 0 := Stand.of_body Bd
  have e0 : s₁.heap = h0 := by rw [← hh, Bd.state]; rfl
  have N0 := Fr.nil n0
  have z0 : n0 ≤ h0.size := Z0
  have z1 := pr_E_a_1.lt
  have z2 := pr_F_a_1_bits.lt
  have z3 := pr_F_a_1_signed.lt
  have K0 : Keep h0 h0 [a_1] := Keep.refl h0 _
  show own_Go p.tables e below (fun t o => t.status = .running ∧ Ended t below o ∧ ∃ v L, o = .returned v ∧ own_Q1 Z a_1 p_2 p_3 w_bits_a_1 w_signed_a_1 h0 n0 v t.heap L ∧ FrameEnd s o t L ({ frames := 2, cells := 0, slots := 0, locals := 24 } : Room).cells ({ frames := 2, cells := 0, slots := 0, locals := 24 } : Room).slots) s₁ (entryFrame m #[(.ref a_1), (.int p_2), (.int p_3)] 3)
  rw [own_ef_own_rm1 m a_1 p_2 p_3]
  show own_Go _ _ _ _ s₁ (mkF m 0 #[.val (.ref a_1), .val (.int p_2), .val (.int p_3)] [])
  refine own_go (fun _ k => XS.aloadN X0.here hx rfl (hb hby own_d1_0) rfl rfl k) ?_
  show own_Go _ _ _ _ s₁ (mkF m 1 #[.val (.ref a_1), .val (.int p_2), .val (.int p_3)] [(.ref a_1)])
  obtain ⟨_, _, ⟨T4, L4, k4, n4⟩, -, X4, ⟨Lc4, hQ4, l4, y4, z4⟩, st4⟩ := X0.specialBack hx (y := (⟨"java/lang/Record", "<init>", "()V"⟩ : MethodName)) rfl hown (mvT hZ (hw _ (List.mem_of_getElem? (i := 7) rfl))) (mvT hZ (hw _ (List.mem_of_getElem? (i := 8) rfl))) (mvT hZ (hw _ (List.mem_of_getElem? (i := 11) rfl))) (by decide) (backOf (W := 0) (own_rm2 l Z a0 hw [] a_1  h0 n0 (by omega) ) hZ (hw _ (List.mem_of_getElem? (i := 11) rfl)) (hw _ (List.mem_of_getElem? (i := 10) rfl)) (by decide) (by decide)) (g := (mkF m 1 #[.val (.ref a_1), .val (.int p_2), .val (.int p_3)] [(.ref a_1)])) rfl (by rw [hml]; rfl) (Steps.refl _) (a := a_1) (argsL := []) (rest := []) (lenOf own_pd0 rfl) rfl (by show 2 * 0 + _ ≤ _; exact Nat.le_of_eq rfl) (hb hby own_d1_1) (fun _ _ => ⟨rfl, e0, (by decide : 0 + 0 ≤ _), (by decide : 0 + 0 ≤ _)⟩)
  dsimp only [Pt.U, Pt.locs, Pt.cells, Pt.slots] at X4 l4 y4 z4 st4 hQ4
  subst l4 y4 z4
  obtain ⟨rfl, N4q, e4⟩ := hQ4
  have N4 := Fr.app N0 N4q
  refine own_go (fun _ k => st4.trans k) ?_
  show own_Go _ _ _ _ T4 (mkF m 4 #[.val (.ref a_1), .val (.int p_2), .val (.int p_3)] [])
  refine own_go (fun _ k => XS.iloadN X4.here hx rfl (hb hby own_d1_4) rfl k) ?_
  show own_Go _ _ _ _ T4 (mkF m 5 #[.val (.ref a_1), .val (.int p_2), .val (.int p_3)] [(.int p_2)])
  refine own_go (fun _ k => XS.iconst X4.here hx rfl (hb hby own_d1_5) k) ?_
  show own_Go _ _ _ _ T4 (mkF m 6 #[.val (.ref a_1), .val (.int p_2), .val (.int p_3)] [(.int (1 : Int32)), (.int p_2)])
  by_cases hc5 : p_2 = (1 : Int32)
  · refine own_go (fun _ k => XS.icmpYes X4.here hx rfl (pc0 := 6) (pc' := 47) rfl (hb hby own_d1_6) rfl (Jvm.Free.XT.ii_eq_t hc5) (by decide) (by decide) k) ?_
    show own_Go _ _ _ _ T4 (mkF m 47 #[.val (.ref a_1), .val (.int p_2), .val (.int p_3)] [])
    refine own_go (fun _ k => XS.aloadN X4.here hx rfl (hb hby own_d1_47) rfl rfl k) ?_
    show own_Go _ _ _ _ T4 (mkF m 48 #[.val (.ref a_1), .val (.int p_2), .val (.int p_3)] [(.ref a_1)])
    refine own_go (fun _ k => XS.iloadN X4.here hx rfl (hb hby own_d1_48) rfl k) ?_
    show own_Go _ _ _ _ T4 (mkF m 49 #[.val (.ref a_1), .val (.int p_2), .val (.int p_3)] [(.int p_2), (.ref a_1)])
    obtain ⟨T6, h6, X6, e6, W6, st6⟩ := putF X4 hx hZ hown (host := "") (Or.inl (hw _ (List.mem_of_getElem? (i := 15) rfl))) Via.refl e4 pr_F_a_1_bits pr_E_a_1 (Or.inr ⟨(hw _ (List.mem_of_getElem? (i := 16) rfl)), rfl, hnm⟩) (hw _ (List.mem_of_getElem? (i := 2) rfl)) (ty := .int) (by decide) rfl rfl (g := (mkF m 49 #[.val (.ref a_1), .val (.int p_2), .val (.int p_3)] [(.int p_2), (.ref a_1)])) rfl rfl (hb hby own_d1_49)
    have z7 := W6.size
    have K6 : Keep h0 h6 [a_1] := K0.wr W6 (Or.inl (List.mem_of_getElem? (i := 0) rfl))
    have N6 := Fr.snoc X6 N4 (by omega : n0 ≤ a_1)
    have Fw6 : Fld Z h6 a_1 "com/example/tessera/tessera/IntType" "bits" "I" (.int p_2) := Fld.same W6 pr_F_a_1_bits
    refine own_go (fun _ k => st6 _ k) ?_
    show own_Go _ _ _ _ T6 (mkF m 52 #[.val (.ref a_1), .val (.int p_2), .val (.int p_3)] [])
    refine own_go (fun _ k => XS.aloadN X6.here hx rfl (hb hby own_d1_52) rfl rfl k) ?_
    show own_Go _ _ _ _ T6 (mkF m 53 #[.val (.ref a_1), .val (.int p_2), .val (.int p_3)] [(.ref a_1)])
    refine own_go (fun _ k => XS.iloadN X6.here hx rfl (hb hby own_d1_53) rfl k) ?_
    show own_Go _ _ _ _ T6 (mkF m 54 #[.val (.ref a_1), .val (.int p_2), .val (.int p_3)] [(.int p_3), (.ref a_1)])
    have f8 : Exa Z h6 a_1 "com/example/tessera/tessera/IntType" := (pr_E_a_1.wr W6)
    have f9 : Fld Z h6 a_1 "com/example/tessera/tessera/IntType" "signed" "Z" (.int w_signed_a_1) := (pr_F_a_1_signed.other W6 (Or.inr (slot_ne (Or.inr (hw _ (List.mem_of_getElem? (i := 18) rfl))) (Or.inr (hw _ (List.mem_of_getElem? (i := 16) rfl))) (by decide) (t := .boolean) (t' := .int) (by decide) (by decide))))
    obtain ⟨T10, h10, X10, e10, W10, st10⟩ := putFN X6 hx hZ hown (hw _ (List.mem_of_getElem? (i := 17) rfl)) Via.refl e6 f9 f8 (Or.inr ⟨(hw _ (List.mem_of_getElem? (i := 18) rfl)), rfl, hnm⟩) (hw _ (List.mem_of_getElem? (i := 2) rfl)) (ty := .boolean) (v' := .int (nar .boolean p_3)) (by decide) (rfl) (fits_nar_bool p_3) (g := (mkF m 54 #[.val (.ref a_1), .val (.int p_2), .val (.int p_3)] [(.int p_3), (.ref a_1)])) rfl rfl (hb hby own_d1_54)
    have z11 := W10.size
    have K10 : Keep h0 h10 [a_1] := K6.wr W10 (Or.inl (List.mem_of_getElem? (i := 0) rfl))
    have N10 := Fr.snoc X10 N6 (by omega : n0 ≤ a_1)
    have Fw10 : Fld Z h10 a_1 "com/example/tessera/tessera/IntType" "signed" "Z" (.int (nar .boolean p_3)) := Fld.same W10 f9
    refine own_go (fun _ k => st10 _ k) ?_
    show own_Go _ _ _ _ T10 (mkF m 57 #[.val (.ref a_1), .val (.int p_2), .val (.int p_3)] [])
    obtain ⟨fs, hr, hrun, hended, hW, hsame⟩ := X10.leave (v := none) (fun _ => rfl)
    refine ⟨_, _, X10.returnOut hx Bd.returns (hb hby own_d1_57) hr, hrun, hended, _, _, rfl, ?_, ⟨_, rfl⟩, hW, hsame.mono (by decide) (by decide)⟩
    show own_Q1 Z a_1 p_2 p_3 w_bits_a_1 w_signed_a_1 h0 n0 _ T10.heap _
    rw [e10]
    have f13 : Exa Z h10 a_1 "com/example/tessera/tessera/IntType" := (f8.wr W10)
    have f14 : Fld Z h10 a_1 "com/example/tessera/tessera/IntType" "bits" "I" (.int p_2) := (Fw6.other W10 (Or.inr (slot_ne (Or.inr (hw _ (List.mem_of_getElem? (i := 16) rfl))) (Or.inr (hw _ (List.mem_of_getElem? (i := 18) rfl))) (by decide) (t := .int) (t' := .boolean) (by decide) (by decide))))
    exact ⟨rfl, N10, K10, f13, f14, Fw10⟩
  · refine own_go (fun _ k => XS.icmpNo X4.here hx rfl (hb hby own_d1_6) rfl (Jvm.Free.XT.ii_eq_f hc5) k) ?_
    show own_Go _ _ _ _ T4 (mkF m 9 #[.val (.ref a_1), .val (.int p_2), .val (.int p_3)] [])
    refine own_go (fun _ k => XS.iloadN X4.here hx rfl (hb hby own_d1_9) rfl k) ?_
    show own_Go _ _ _ _ T4 (mkF m 10 #[.val (.ref a_1), .val (.int p_2), .val (.int p_3)] [(.int p_2)])
    refine own_go (fun _ k => XS.bipush X4.here hx rfl (hb hby own_d1_10) k) ?_
    show own_Go _ _ _ _ T4 (mkF m 12 #[.val (.ref a_1), .val (.int p_2), .val (.int p_3)] [(.int (8 : Int32)), (.int p_2)])
    by_cases hc15 : p_2 = (8 : Int32)
    · refine own_go (fun _ k => XS.icmpYes X4.here hx rfl (pc0 := 12) (pc' := 47) rfl (hb hby own_d1_12) rfl (Jvm.Free.XT.ii_eq_t hc15) (by decide) (by decide) k) ?_
      show own_Go _ _ _ _ T4 (mkF m 47 #[.val (.ref a_1), .val (.int p_2), .val (.int p_3)] [])
      refine own_go (fun _ k => XS.aloadN X4.here hx rfl (hb hby own_d1_47) rfl rfl k) ?_
      show own_Go _ _ _ _ T4 (mkF m 48 #[.val (.ref a_1), .val (.int p_2), .val (.int p_3)] [(.ref a_1)])
      refine own_go (fun _ k => XS.iloadN X4.here hx rfl (hb hby own_d1_48) rfl k) ?_
      show own_Go _ _ _ _ T4 (mkF m 49 #[.val (.ref a_1), .val (.int p_2), .val (.int p_3)] [(.int p_2), (.ref a_1)])
      obtain ⟨T16, h16, X16, e16, W16, st16⟩ := putF X4 hx hZ hown (host := "") (Or.inl (hw _ (List.mem_of_getElem? (i := 15) rfl))) Via.refl e4 pr_F_a_1_bits pr_E_a_1 (Or.inr ⟨(hw _ (List.mem_of_getElem? (i := 16) rfl)), rfl, hnm⟩) (hw _ (List.mem_of_getElem? (i := 2) rfl)) (ty := .int) (by decide) rfl rfl (g := (mkF m 49 #[.val (.ref a_1), .val (.int p_2), .val (.int p_3)] [(.int p_2), (.ref a_1)])) rfl rfl (hb hby own_d1_49)
      have z17 := W16.size
      have K16 : Keep h0 h16 [a_1] := K0.wr W16 (Or.inl (List.mem_of_getElem? (i := 0) rfl))
      have N16 := Fr.snoc X16 N4 (by omega : n0 ≤ a_1)
      have Fw16 : Fld Z h16 a_1 "com/example/tessera/tessera/IntType" "bits" "I" (.int p_2) := Fld.same W16 pr_F_a_1_bits
      refine own_go (fun _ k => st16 _ k) ?_
      show own_Go _ _ _ _ T16 (mkF m 52 #[.val (.ref a_1), .val (.int p_2), .val (.int p_3)] [])
      refine own_go (fun _ k => XS.aloadN X16.here hx rfl (hb hby own_d1_52) rfl rfl k) ?_
      show own_Go _ _ _ _ T16 (mkF m 53 #[.val (.ref a_1), .val (.int p_2), .val (.int p_3)] [(.ref a_1)])
      refine own_go (fun _ k => XS.iloadN X16.here hx rfl (hb hby own_d1_53) rfl k) ?_
      show own_Go _ _ _ _ T16 (mkF m 54 #[.val (.ref a_1), .val (.int p_2), .val (.int p_3)] [(.int p_3), (.ref a_1)])
      have f18 : Exa Z h16 a_1 "com/example/tessera/tessera/IntType" := (pr_E_a_1.wr W16)
      have f19 : Fld Z h16 a_1 "com/example/tessera/tessera/IntType" "signed" "Z" (.int w_signed_a_1) := (pr_F_a_1_signed.other W16 (Or.inr (slot_ne (Or.inr (hw _ (List.mem_of_getElem? (i := 18) rfl))) (Or.inr (hw _ (List.mem_of_getElem? (i := 16) rfl))) (by decide) (t := .boolean) (t' := .int) (by decide) (by decide))))
      obtain ⟨T20, h20, X20, e20, W20, st20⟩ := putFN X16 hx hZ hown (hw _ (List.mem_of_getElem? (i := 17) rfl)) Via.refl e16 f19 f18 (Or.inr ⟨(hw _ (List.mem_of_getElem? (i := 18) rfl)), rfl, hnm⟩) (hw _ (List.mem_of_getElem? (i := 2) rfl)) (ty := .boolean) (v' := .int (nar .boolean p_3)) (by decide) (rfl) (fits_nar_bool p_3) (g := (mkF m 54 #[.val (.ref a_1), .val (.int p_2), .val (.int p_3)] [(.int p_3), (.ref a_1)])) rfl rfl (hb hby own_d1_54)
      have z21 := W20.size
      have K20 : Keep h0 h20 [a_1] := K16.wr W20 (Or.inl (List.mem_of_getElem? (i := 0) rfl))
      have N20 := Fr.snoc X20 N16 (by omega : n0 ≤ a_1)
      have Fw20 : Fld Z h20 a_1 "com/example/tessera/tessera/IntType" "signed" "Z" (.int (nar .boolean p_3)) := Fld.same W20 f19
      refine own_go (fun _ k => st20 _ k) ?_
      show own_Go _ _ _ _ T20 (mkF m 57 #[.val (.ref a_1), .val (.int p_2), .val (.int p_3)] [])
      obtain ⟨fs, hr, hrun, hended, hW, hsame⟩ := X20.leave (v := none) (fun _ => rfl)
      refine ⟨_, _, X20.returnOut hx Bd.returns (hb hby own_d1_57) hr, hrun, hended, _, _, rfl, ?_, ⟨_, rfl⟩, hW, hsame.mono (by decide) (by decide)⟩
      show own_Q1 Z a_1 p_2 p_3 w_bits_a_1 w_signed_a_1 h0 n0 _ T20.heap _
      rw [e20]
      have f23 : Exa Z h20 a_1 "com/example/tessera/tessera/IntType" := (f18.wr W20)
      have f24 : Fld Z h20 a_1 "com/example/tessera/tessera/IntType" "bits" "I" (.int p_2) := (Fw16.other W20 (Or.inr (slot_ne (Or.inr (hw _ (List.mem_of_getElem? (i := 16) rfl))) (Or.inr (hw _ (List.mem_of_getElem? (i := 18) rfl))) (by decide) (t := .int) (t' := .boolean) (by decide) (by decide))))
      exact ⟨rfl, N20, K20, f23, f24, Fw20⟩
    · refine own_go (fun _ k => XS.icmpNo X4.here hx rfl (hb hby own_d1_12) rfl (Jvm.Free.XT.ii_eq_f hc15) k) ?_
      show own_Go _ _ _ _ T4 (mkF m 15 #[.val (.ref a_1), .val (.int p_2), .val (.int p_3)] [])
      refine own_go (fun _ k => XS.iloadN X4.here hx rfl (hb hby own_d1_15) rfl k) ?_
      show own_Go _ _ _ _ T4 (mkF m 16 #[.val (.ref a_1), .val (.int p_2), .val (.int p_3)] [(.int p_2)])
      refine own_go (fun _ k => XS.bipush X4.here hx rfl (hb hby own_d1_16) k) ?_
      show own_Go _ _ _ _ T4 (mkF m 18 #[.val (.ref a_1), .val (.int p_2), .val (.int p_3)] [(.int (16 : Int32)), (.int p_2)])
      by_cases hc25 : p_2 = (16 : Int32)
      · refine own_go (fun _ k => XS.icmpYes X4.here hx rfl (pc0 := 18) (pc' := 47) rfl (hb hby own_d1_18) rfl (Jvm.Free.XT.ii_eq_t hc25) (by decide) (by decide) k) ?_
        show own_Go _ _ _ _ T4 (mkF m 47 #[.val (.ref a_1), .val (.int p_2), .val (.int p_3)] [])
        refine own_go (fun _ k => XS.aloadN X4.here hx rfl (hb hby own_d1_47) rfl rfl k) ?_
        show own_Go _ _ _ _ T4 (mkF m 48 #[.val (.ref a_1), .val (.int p_2), .val (.int p_3)] [(.ref a_1)])
        refine own_go (fun _ k => XS.iloadN X4.here hx rfl (hb hby own_d1_48) rfl k) ?_
        show own_Go _ _ _ _ T4 (mkF m 49 #[.val (.ref a_1), .val (.int p_2), .val (.int p_3)] [(.int p_2), (.ref a_1)])
        obtain ⟨T26, h26, X26, e26, W26, st26⟩ := putF X4 hx hZ hown (host := "") (Or.inl (hw _ (List.mem_of_getElem? (i := 15) rfl))) Via.refl e4 pr_F_a_1_bits pr_E_a_1 (Or.inr ⟨(hw _ (List.mem_of_getElem? (i := 16) rfl)), rfl, hnm⟩) (hw _ (List.mem_of_getElem? (i := 2) rfl)) (ty := .int) (by decide) rfl rfl (g := (mkF m 49 #[.val (.ref a_1), .val (.int p_2), .val (.int p_3)] [(.int p_2), (.ref a_1)])) rfl rfl (hb hby own_d1_49)
        have z27 := W26.size
        have K26 : Keep h0 h26 [a_1] := K0.wr W26 (Or.inl (List.mem_of_getElem? (i := 0) rfl))
        have N26 := Fr.snoc X26 N4 (by omega : n0 ≤ a_1)
        have Fw26 : Fld Z h26 a_1 "com/example/tessera/tessera/IntType" "bits" "I" (.int p_2) := Fld.same W26 pr_F_a_1_bits
        refine own_go (fun _ k => st26 _ k) ?_
        show own_Go _ _ _ _ T26 (mkF m 52 #[.val (.ref a_1), .val (.int p_2), .val (.int p_3)] [])
        refine own_go (fun _ k => XS.aloadN X26.here hx rfl (hb hby own_d1_52) rfl rfl k) ?_
        show own_Go _ _ _ _ T26 (mkF m 53 #[.val (.ref a_1), .val (.int p_2), .val (.int p_3)] [(.ref a_1)])
        refine own_go (fun _ k => XS.iloadN X26.here hx rfl (hb hby own_d1_53) rfl k) ?_
        show own_Go _ _ _ _ T26 (mkF m 54 #[.val (.ref a_1), .val (.int p_2), .val (.int p_3)] [(.int p_3), (.ref a_1)])
        have f28 : Exa Z h26 a_1 "com/example/tessera/tessera/IntType" := (pr_E_a_1.wr W26)
        have f29 : Fld Z h26 a_1 "com/example/tessera/tessera/IntType" "signed" "Z" (.int w_signed_a_1) := (pr_F_a_1_signed.other W26 (Or.inr (slot_ne (Or.inr (hw _ (List.mem_of_getElem? (i := 18) rfl))) (Or.inr (hw _ (List.mem_of_getElem? (i := 16) rfl))) (by decide) (t := .boolean) (t' := .int) (by decide) (by decide))))
        obtain ⟨T30, h30, X30, e30, W30, st30⟩ := putFN X26 hx hZ hown (hw _ (List.mem_of_getElem? (i := 17) rfl)) Via.refl e26 f29 f28 (Or.inr ⟨(hw _ (List.mem_of_getElem? (i := 18) rfl)), rfl, hnm⟩) (hw _ (List.mem_of_getElem? (i := 2) rfl)) (ty := .boolean) (v' := .int (nar .boolean p_3)) (by decide) (rfl) (fits_nar_bool p_3) (g := (mkF m 54 #[.val (.ref a_1), .val (.int p_2), .val (.int p_3)] [(.int p_3), (.ref a_1)])) rfl rfl (hb hby own_d1_54)
        have z31 := W30.size
        have K30 : Keep h0 h30 [a_1] := K26.wr W30 (Or.inl (List.mem_of_getElem? (i := 0) rfl))
        have N30 := Fr.snoc X30 N26 (by omega : n0 ≤ a_1)
        have Fw30 : Fld Z h30 a_1 "com/example/tessera/tessera/IntType" "signed" "Z" (.int (nar .boolean p_3)) := Fld.same W30 f29
        refine own_go (fun _ k => st30 _ k) ?_
        show own_Go _ _ _ _ T30 (mkF m 57 #[.val (.ref a_1), .val (.int p_2), .val (.int p_3)] [])
        obtain ⟨fs, hr, hrun, hended, hW, hsame⟩ := X30.leave (v := none) (fun _ => rfl)
        refine ⟨_, _, X30.returnOut hx Bd.returns (hb hby own_d1_57) hr, hrun, hended, _, _, rfl, ?_, ⟨_, rfl⟩, hW, hsame.mono (by decide) (by decide)⟩
        show own_Q1 Z a_1 p_2 p_3 w_bits_a_1 w_signed_a_1 h0 n0 _ T30.heap _
        rw [e30]
        have f33 : Exa Z h30 a_1 "com/example/tessera/tessera/IntType" := (f28.wr W30)
        have f34 : Fld Z h30 a_1 "com/example/tessera/tessera/IntType" "bits" "I" (.int p_2) := (Fw26.other W30 (Or.inr (slot_ne (Or.inr (hw _ (List.mem_of_getElem? (i := 16) rfl))) (Or.inr (hw _ (List.mem_of_getElem? (i := 18) rfl))) (by decide) (t := .int) (t' := .boolean) (by decide) (by decide))))
        exact ⟨rfl, N30, K30, f33, f34, Fw30⟩
      · refine own_go (fun _ k => XS.icmpNo X4.here hx rfl (hb hby own_d1_18) rfl (Jvm.Free.XT.ii_eq_f hc25) k) ?_
        show own_Go _ _ _ _ T4 (mkF m 21 #[.val (.ref a_1), .val (.int p_2), .val (.int p_3)] [])
        refine own_go (fun _ k => XS.iloadN X4.here hx rfl (hb hby own_d1_21) rfl k) ?_
        show own_Go _ _ _ _ T4 (mkF m 22 #[.val (.ref a_1), .val (.int p_2), .val (.int p_3)] [(.int p_2)])
        refine own_go (fun _ k => XS.bipush X4.here hx rfl (hb hby own_d1_22) k) ?_
        show own_Go _ _ _ _ T4 (mkF m 24 #[.val (.ref a_1), .val (.int p_2), .val (.int p_3)] [(.int (32 : Int32)), (.int p_2)])
        by_cases hc35 : p_2 = (32 : Int32)
        · refine own_go (fun _ k => XS.icmpYes X4.here hx rfl (pc0 := 24) (pc' := 47) rfl (hb hby own_d1_24) rfl (Jvm.Free.XT.ii_eq_t hc35) (by decide) (by decide) k) ?_
          show own_Go _ _ _ _ T4 (mkF m 47 #[.val (.ref a_1), .val (.int p_2), .val (.int p_3)] [])
          refine own_go (fun _ k => XS.aloadN X4.here hx rfl (hb hby own_d1_47) rfl rfl k) ?_
          show own_Go _ _ _ _ T4 (mkF m 48 #[.val (.ref a_1), .val (.int p_2), .val (.int p_3)] [(.ref a_1)])
          refine own_go (fun _ k => XS.iloadN X4.here hx rfl (hb hby own_d1_48) rfl k) ?_
          show own_Go _ _ _ _ T4 (mkF m 49 #[.val (.ref a_1), .val (.int p_2), .val (.int p_3)] [(.int p_2), (.ref a_1)])
          obtain ⟨T36, h36, X36, e36, W36, st36⟩ := putF X4 hx hZ hown (host := "") (Or.inl (hw _ (List.mem_of_getElem? (i := 15) rfl))) Via.refl e4 pr_F_a_1_bits pr_E_a_1 (Or.inr ⟨(hw _ (List.mem_of_getElem? (i := 16) rfl)), rfl, hnm⟩) (hw _ (List.mem_of_getElem? (i := 2) rfl)) (ty := .int) (by decide) rfl rfl (g := (mkF m 49 #[.val (.ref a_1), .val (.int p_2), .val (.int p_3)] [(.int p_2), (.ref a_1)])) rfl rfl (hb hby own_d1_49)
          have z37 := W36.size
          have K36 : Keep h0 h36 [a_1] := K0.wr W36 (Or.inl (List.mem_of_getElem? (i := 0) rfl))
          have N36 := Fr.snoc X36 N4 (by omega : n0 ≤ a_1)
          have Fw36 : Fld Z h36 a_1 "com/example/tessera/tessera/IntType" "bits" "I" (.int p_2) := Fld.same W36 pr_F_a_1_bits
          refine own_go (fun _ k => st36 _ k) ?_
          show own_Go _ _ _ _ T36 (mkF m 52 #[.val (.ref a_1), .val (.int p_2), .val (.int p_3)] [])
          refine own_go (fun _ k => XS.aloadN X36.here hx rfl (hb hby own_d1_52) rfl rfl k) ?_
          show own_Go _ _ _ _ T36 (mkF m 53 #[.val (.ref a_1), .val (.int p_2), .val (.int p_3)] [(.ref a_1)])
          refine own_go (fun _ k => XS.iloadN X36.here hx rfl (hb hby own_d1_53) rfl k) ?_
          show own_Go _ _ _ _ T36 (mkF m 54 #[.val (.ref a_1), .val (.int p_2), .val (.int p_3)] [(.int p_3), (.ref a_1)])
          have f38 : Exa Z h36 a_1 "com/example/tessera/tessera/IntType" := (pr_E_a_1.wr W36)
          have f39 : Fld Z h36 a_1 "com/example/tessera/tessera/IntType" "signed" "Z" (.int w_signed_a_1) := (pr_F_a_1_signed.other W36 (Or.inr (slot_ne (Or.inr (hw _ (List.mem_of_getElem? (i := 18) rfl))) (Or.inr (hw _ (List.mem_of_getElem? (i := 16) rfl))) (by decide) (t := .boolean) (t' := .int) (by decide) (by decide))))
          obtain ⟨T40, h40, X40, e40, W40, st40⟩ := putFN X36 hx hZ hown (hw _ (List.mem_of_getElem? (i := 17) rfl)) Via.refl e36 f39 f38 (Or.inr ⟨(hw _ (List.mem_of_getElem? (i := 18) rfl)), rfl, hnm⟩) (hw _ (List.mem_of_getElem? (i := 2) rfl)) (ty := .boolean) (v' := .int (nar .boolean p_3)) (by decide) (rfl) (fits_nar_bool p_3) (g := (mkF m 54 #[.val (.ref a_1), .val (.int p_2), .val (.int p_3)] [(.int p_3), (.ref a_1)])) rfl rfl (hb hby own_d1_54)
          have z41 := W40.size
          have K40 : Keep h0 h40 [a_1] := K36.wr W40 (Or.inl (List.mem_of_getElem? (i := 0) rfl))
          have N40 := Fr.snoc X40 N36 (by omega : n0 ≤ a_1)
          have Fw40 : Fld Z h40 a_1 "com/example/tessera/tessera/IntType" "signed" "Z" (.int (nar .boolean p_3)) := Fld.same W40 f39
          refine own_go (fun _ k => st40 _ k) ?_
          show own_Go _ _ _ _ T40 (mkF m 57 #[.val (.ref a_1), .val (.int p_2), .val (.int p_3)] [])
          obtain ⟨fs, hr, hrun, hended, hW, hsame⟩ := X40.leave (v := none) (fun _ => rfl)
          refine ⟨_, _, X40.returnOut hx Bd.returns (hb hby own_d1_57) hr, hrun, hended, _, _, rfl, ?_, ⟨_, rfl⟩, hW, hsame.mono (by decide) (by decide)⟩
          show own_Q1 Z a_1 p_2 p_3 w_bits_a_1 w_signed_a_1 h0 n0 _ T40.heap _
          rw [e40]
          have f43 : Exa Z h40 a_1 "com/example/tessera/tessera/IntType" := (f38.wr W40)
          have f44 : Fld Z h40 a_1 "com/example/tessera/tessera/IntType" "bits" "I" (.int p_2) := (Fw36.other W40 (Or.inr (slot_ne (Or.inr (hw _ (List.mem_of_getElem? (i := 16) rfl))) (Or.inr (hw _ (List.mem_of_getElem? (i := 18) rfl))) (by decide) (t := .int) (t' := .boolean) (by decide) (by decide))))
          exact ⟨rfl, N40, K40, f43, f44, Fw40⟩
        · refine own_go (fun _ k => XS.icmpNo X4.here hx rfl (hb hby own_d1_24) rfl (Jvm.Free.XT.ii_eq_f hc35) k) ?_
          show own_Go _ _ _ _ T4 (mkF m 27 #[.val (.ref a_1), .val (.int p_2), .val (.int p_3)] [])
          refine own_go (fun _ k => XS.iloadN X4.here hx rfl (hb hby own_d1_27) rfl k) ?_
          show own_Go _ _ _ _ T4 (mkF m 28 #[.val (.ref a_1), .val (.int p_2), .val (.int p_3)] [(.int p_2)])
          refine own_go (fun _ k => XS.bipush X4.here hx rfl (hb hby own_d1_28) k) ?_
          show own_Go _ _ _ _ T4 (mkF m 30 #[.val (.ref a_1), .val (.int p_2), .val (.int p_3)] [(.int (64 : Int32)), (.int p_2)])
          have hc45 : p_2 = (64 : Int32) := own_t1_0 p_2 hbb hc5 hc15 hc25 hc35
          refine own_go (fun _ k => XS.icmpYes X4.here hx rfl (pc0 := 30) (pc' := 47) rfl (hb hby own_d1_30) rfl (Jvm.Free.XT.ii_eq_t hc45) (by decide) (by decide) k) ?_
          show own_Go _ _ _ _ T4 (mkF m 47 #[.val (.ref a_1), .val (.int p_2), .val (.int p_3)] [])
          refine own_go (fun _ k => XS.aloadN X4.here hx rfl (hb hby own_d1_47) rfl rfl k) ?_
          show own_Go _ _ _ _ T4 (mkF m 48 #[.val (.ref a_1), .val (.int p_2), .val (.int p_3)] [(.ref a_1)])
          refine own_go (fun _ k => XS.iloadN X4.here hx rfl (hb hby own_d1_48) rfl k) ?_
          show own_Go _ _ _ _ T4 (mkF m 49 #[.val (.ref a_1), .val (.int p_2), .val (.int p_3)] [(.int p_2), (.ref a_1)])
          obtain ⟨T46, h46, X46, e46, W46, st46⟩ := putF X4 hx hZ hown (host := "") (Or.inl (hw _ (List.mem_of_getElem? (i := 15) rfl))) Via.refl e4 pr_F_a_1_bits pr_E_a_1 (Or.inr ⟨(hw _ (List.mem_of_getElem? (i := 16) rfl)), rfl, hnm⟩) (hw _ (List.mem_of_getElem? (i := 2) rfl)) (ty := .int) (by decide) rfl rfl (g := (mkF m 49 #[.val (.ref a_1), .val (.int p_2), .val (.int p_3)] [(.int p_2), (.ref a_1)])) rfl rfl (hb hby own_d1_49)
          have z47 := W46.size
          have K46 : Keep h0 h46 [a_1] := K0.wr W46 (Or.inl (List.mem_of_getElem? (i := 0) rfl))
          have N46 := Fr.snoc X46 N4 (by omega : n0 ≤ a_1)
          have Fw46 : Fld Z h46 a_1 "com/example/tessera/tessera/IntType" "bits" "I" (.int p_2) := Fld.same W46 pr_F_a_1_bits
          refine own_go (fun _ k => st46 _ k) ?_
          show own_Go _ _ _ _ T46 (mkF m 52 #[.val (.ref a_1), .val (.int p_2), .val (.int p_3)] [])
          refine own_go (fun _ k => XS.aloadN X46.here hx rfl (hb hby own_d1_52) rfl rfl k) ?_
          show own_Go _ _ _ _ T46 (mkF m 53 #[.val (.ref a_1), .val (.int p_2), .val (.int p_3)] [(.ref a_1)])
          refine own_go (fun _ k => XS.iloadN X46.here hx rfl (hb hby own_d1_53) rfl k) ?_
          show own_Go _ _ _ _ T46 (mkF m 54 #[.val (.ref a_1), .val (.int p_2), .val (.int p_3)] [(.int p_3), (.ref a_1)])
          have f48 : Exa Z h46 a_1 "com/example/tessera/tessera/IntType" := (pr_E_a_1.wr W46)
          have f49 : Fld Z h46 a_1 "com/example/tessera/tessera/IntType" "signed" "Z" (.int w_signed_a_1) := (pr_F_a_1_signed.other W46 (Or.inr (slot_ne (Or.inr (hw _ (List.mem_of_getElem? (i := 18) rfl))) (Or.inr (hw _ (List.mem_of_getElem? (i := 16) rfl))) (by decide) (t := .boolean) (t' := .int) (by decide) (by decide))))
          obtain ⟨T50, h50, X50, e50, W50, st50⟩ := putFN X46 hx hZ hown (hw _ (List.mem_of_getElem? (i := 17) rfl)) Via.refl e46 f49 f48 (Or.inr ⟨(hw _ (List.mem_of_getElem? (i := 18) rfl)), rfl, hnm⟩) (hw _ (List.mem_of_getElem? (i := 2) rfl)) (ty := .boolean) (v' := .int (nar .boolean p_3)) (by decide) (rfl) (fits_nar_bool p_3) (g := (mkF m 54 #[.val (.ref a_1), .val (.int p_2), .val (.int p_3)] [(.int p_3), (.ref a_1)])) rfl rfl (hb hby own_d1_54)
          have z51 := W50.size
          have K50 : Keep h0 h50 [a_1] := K46.wr W50 (Or.inl (List.mem_of_getElem? (i := 0) rfl))
          have N50 := Fr.snoc X50 N46 (by omega : n0 ≤ a_1)
          have Fw50 : Fld Z h50 a_1 "com/example/tessera/tessera/IntType" "signed" "Z" (.int (nar .boolean p_3)) := Fld.same W50 f49
          refine own_go (fun _ k => st50 _ k) ?_
          show own_Go _ _ _ _ T50 (mkF m 57 #[.val (.ref a_1), .val (.int p_2), .val (.int p_3)] [])
          obtain ⟨fs, hr, hrun, hended, hW, hsame⟩ := X50.leave (v := none) (fun _ => rfl)
          refine ⟨_, _, X50.returnOut hx Bd.returns (hb hby own_d1_57) hr, hrun, hended, _, _, rfl, ?_, ⟨_, rfl⟩, hW, hsame.mono (by decide) (by decide)⟩
          show own_Q1 Z a_1 p_2 p_3 w_bits_a_1 w_signed_a_1 h0 n0 _ T50.heap _
          rw [e50]
          have f53 : Exa Z h50 a_1 "com/example/tessera/tessera/IntType" := (f48.wr W50)
          have f54 : Fld Z h50 a_1 "com/example/tessera/tessera/IntType" "bits" "I" (.int p_2) := (Fw46.other W50 (Or.inr (slot_ne (Or.inr (hw _ (List.mem_of_getElem? (i := 16) rfl))) (Or.inr (hw _ (List.mem_of_getElem? (i := 18) rfl))) (by decide) (t := .int) (t' := .boolean) (by decide) (by decide))))
          exact ⟨rfl, N50, K50, f53, f54, Fw50⟩
theorem own_d4_0 : decode prog_21_method_5_code 0 = .ok (.aload_n 0, 1) := by decide +kernel
theorem own_d4_1 : decode prog_21_method_5_code 1 = .ok (.getfield 16, 3) := by decide +kernel
theorem own_d4_4 : decode prog_21_method_5_code 4 = .ok (.iconst 1, 1) := by decide +kernel
theorem own_d4_5 : decode prog_21_method_5_code 5 = .ok (.if_icmp .ne 7, 3) := by decide +kernel
theorem own_d4_8 : decode prog_21_method_5_code 8 = .ok (.iconst 1, 1) := by decide +kernel
theorem own_d4_9 : decode prog_21_method_5_code 9 = .ok (.goto 10, 3) := by decide +kernel
theorem own_d4_12 : decode prog_21_method_5_code 12 = .ok (.aload_n 0, 1) := by decide +kernel
theorem own_d4_13 : decode prog_21_method_5_code 13 = .ok (.getfield 16, 3) := by decide +kernel
theorem own_d4_16 : decode prog_21_method_5_code 16 = .ok (.bipush 8, 2) := by decide +kernel
theorem own_d4_18 : decode prog_21_method_5_code 18 = .ok (.idiv, 1) := by decide +kernel
theorem own_d4_19 : decode prog_21_method_5_code 19 = .ok (.ireturn, 1) := by decide +kernel
theorem own_ef_own_rm4 (m : MethodId) (x0 : Addr) : entryFrame m #[(.ref x0)] 1 = mkF m 0 #[.val (.ref x0)] [] := by first | (simp [entryFrame, mkF, argsToLocals, Value.category]; done) | rfl
def own_rm4_ret (w_bits_a_1 : Int32) : Int32 := if w_bits_a_1 = (1 : Int32) then (1 : Int32) else (w_bits_a_1 / (8 : Int32))
def own_Q4 (Z : State) (a_1 : Addr) (w_bits_a_1 : Int32) (h0 : Heap) (n0 : Nat) (v : Option Value) (h : Heap) (L : List Loc) : Prop := ∃ (r_ : Int32), v = some (.int r_) ∧ Fr n0 L ∧ r_ = (own_rm4_ret w_bits_a_1) ∧ h = h0
set_option maxRecDepth 65536 in
set_option maxHeartbeats 40000000 in
theorem own_rm4 (l : Launch) (Z : State) (a0 : Array Value) (hw : ∀ d ∈ tables_1, d.before a0 Z = true) (ws : List Jvm.Cond) (a_1 : Addr) (w_bits_a_1 : Int32) (h0 : Heap) (n0 : Nat) (Z0 : n0 ≤ h0.size) (pr_F_a_1_bits : Fld Z h0 a_1 "com/example/tessera/tessera/IntType" "bits" "I" (.int w_bits_a_1)) :
    MetFree l (⟨"com/example/tessera/tessera/IntType", "fixedSize", "()I"⟩ : MethodName) (head1 (Jvm.Cond.code (⟨"com/example/tessera/tessera/IntType", "fixedSize", "()I"⟩ : MethodName) prog_21_method_5_code 1 (some .int) :: ws) ({ frames := 0, cells := 0, slots := 0, locals := 0 } : Room)) (fun a U => a = #[(.ref a_1)] ∧ Z.Warmed39 U.vm ∧ U.heap = h0) (fun _ _ _ _ _ => True) (fun _ U o U' => ∃ v L, o = .returned v ∧ own_Q4 Z a_1 w_bits_a_1 h0 n0 v U'.heap L ∧ FrameEnd U o U' L ({ frames := 0, cells := 0, slots := 0, locals := 0 } : Room).cells ({ frames := 0, cells := 0, slots := 0, locals := 0 } : Room).slots) := by
  refine MetFree.of_bodySF (plainFor_of_name own_pn1) hisR ?_
  intro p e s m args below meth c s₁ Bd hml0 hP hK
  obtain ⟨rfl, hZ, hh⟩ := hP
  have hx := Bd.exec
  have hby := Bd.bytes
  have hml : c.maxLocals = 1 := hml0
  have hown : s.vm.findClass "com/example/tessera/tessera/IntType" = some m.cls := findClass_of_methodNamed Bd.named
  have hnm := (name_of_methodNamed Bd.named Bd.method).1
  have X0 : Stand p l e ({ frames := 0, cells := 0, slots := 0, locals := 0 } : Room) s m #[(.ref a_1)] below meth c s₁ [] 0 0 := Stand.of_body Bd
  have e0 : s₁.heap = h0 := by rw [← hh, Bd.state]; rfl
  have N0 := Fr.nil n0
  have z0 : n0 ≤ h0.size := Z0
  have z1 := pr_F_a_1_bits.lt
  show own_Go p.tables e below (fun t o => t.status = .running ∧ Ended t below o ∧ ∃ v L, o = .returned v ∧ own_Q4 Z a_1 w_bits_a_1 h0 n0 v t.heap L ∧ FrameEnd s o t L ({ frames := 0, cells := 0, slots := 0, locals := 0 } : Room).cells ({ frames := 0, cells := 0, slots := 0, locals := 0 } : Room).slots) s₁ (entryFrame m #[(.ref a_1)] 1)
  rw [own_ef_own_rm4 m a_1]
  show own_Go _ _ _ _ s₁ (mkF m 0 #[.val (.ref a_1)] [])
  refine own_go (fun _ k => XS.aloadN X0.here hx rfl (hb hby own_d4_0) rfl rfl k) ?_
  show own_Go _ _ _ _ s₁ (mkF m 1 #[.val (.ref a_1)] [(.ref a_1)])
  obtain ⟨T2, X2, e2, st2⟩ := getF X0 hx hZ hown (host := "") (Or.inl (hw _ (List.mem_of_getElem? (i := 15) rfl))) Via.refl e0 pr_F_a_1_bits (g := (mkF m 1 #[.val (.ref a_1)] [(.ref a_1)])) rfl rfl (hb hby own_d4_1)
  refine own_go (fun _ k => st2 _ k) ?_
  show own_Go _ _ _ _ T2 (mkF m 4 #[.val (.ref a_1)] [(.int w_bits_a_1)])
  refine own_go (fun _ k => XS.iconst X2.here hx rfl (hb hby own_d4_4) k) ?_
  show own_Go _ _ _ _ T2 (mkF m 5 #[.val (.ref a_1)] [(.int (1 : Int32)), (.int w_bits_a_1)])
  by_cases hc3 : w_bits_a_1 = (1 : Int32)
  · refine own_go (fun _ k => XS.icmpNo X2.here hx rfl (hb hby own_d4_5) rfl (Jvm.Free.XT.ii_ne_f hc3) k) ?_
    show own_Go _ _ _ _ T2 (mkF m 8 #[.val (.ref a_1)] [])
    refine own_go (fun _ k => XS.iconst X2.here hx rfl (hb hby own_d4_8) k) ?_
    show own_Go _ _ _ _ T2 (mkF m 9 #[.val (.ref a_1)] [(.int (1 : Int32))])
    refine own_go (fun _ k => XS.goto X2.here hx rfl (pc0 := 9) (pc' := 19) rfl (hb hby own_d4_9) (by decide) (by decide) k) ?_
    show own_Go _ _ _ _ T2 (mkF m 19 #[.val (.ref a_1)] [(.int (1 : Int32))])
    obtain ⟨fs, hr, hrun, hended, hW, hsame⟩ := X2.leave (v := some (.int (1 : Int32))) (fun h => by rw [Bd.returns] at h; cases h)
    refine ⟨_, _, retOut X2 hx Bd.returns rfl (Or.inl ⟨rfl, Or.inl rfl, _, rfl⟩) (hb hby own_d4_19) hr, hrun, hended, _, _, rfl, ?_, ⟨_, rfl⟩, hW, hsame.mono (by decide) (by decide)⟩
    show own_Q4 Z a_1 w_bits_a_1 h0 n0 _ T2.heap _
    rw [e2]
    exact ⟨_, rfl, N0, (by subst_vars; first | rfl | simp only [own_rm4_ret, if_pos hc3]), rfl⟩
  · refine own_go (fun _ k => XS.icmpYes X2.here hx rfl (pc0 := 5) (pc' := 12) rfl (hb hby own_d4_5) rfl (Jvm.Free.XT.ii_ne_t hc3) (by decide) (by decide) k) ?_
    show own_Go _ _ _ _ T2 (mkF m 12 #[.val (.ref a_1)] [])
    refine own_go (fun _ k => XS.aloadN X2.here hx rfl (hb hby own_d4_12) rfl rfl k) ?_
    show own_Go _ _ _ _ T2 (mkF m 13 #[.val (.ref a_1)] [(.ref a_1)])
    obtain ⟨T5, X5, e5, st5⟩ := getF X2 hx hZ hown (host := "") (Or.inl (hw _ (List.mem_of_getElem? (i := 15) rfl))) Via.refl e2 pr_F_a_1_bits (g := (mkF m 13 #[.val (.ref a_1)] [(.ref a_1)])) rfl rfl (hb hby own_d4_13)
    refine own_go (fun _ k => st5 _ k) ?_
    show own_Go _ _ _ _ T5 (mkF m 16 #[.val (.ref a_1)] [(.int w_bits_a_1)])
    refine own_go (fun _ k => XS.bipush X5.here hx rfl (hb hby own_d4_16) k) ?_
    show own_Go _ _ _ _ T5 (mkF m 18 #[.val (.ref a_1)] [(.int (8 : Int32)), (.int w_bits_a_1)])
    have nz6 : (8 : Int32) ≠ 0 := by decide
    refine own_go (fun _ k => XS.idiv X5.here hx rfl (hb hby own_d4_18) rfl nz6 k) ?_
    show own_Go _ _ _ _ T5 (mkF m 19 #[.val (.ref a_1)] [(.int (w_bits_a_1 / (8 : Int32)))])
    obtain ⟨fs, hr, hrun, hended, hW, hsame⟩ := X5.leave (v := some (.int (w_bits_a_1 / (8 : Int32)))) (fun h => by rw [Bd.returns] at h; cases h)
    refine ⟨_, _, retOut X5 hx Bd.returns rfl (Or.inl ⟨rfl, Or.inl rfl, _, rfl⟩) (hb hby own_d4_19) hr, hrun, hended, _, _, rfl, ?_, ⟨_, rfl⟩, hW, hsame.mono (by decide) (by decide)⟩
    show own_Q4 Z a_1 w_bits_a_1 h0 n0 _ T5.heap _
    rw [e5]
    exact ⟨_, rfl, N0, (by subst_vars; first | rfl | simp only [own_rm4_ret, if_neg hc3]), rfl⟩
theorem own_ef_own_rm0 (m : MethodId) (x0 : Int32) (x1 : Int32) : entryFrame m #[(.int x0), (.int x1)] maxLocals = mkF m 0 #[.val (.int x0), .val (.int x1), .unset, .unset, .unset, .unset, .unset, .unset, .unset] [] := by first | (simp [entryFrame, mkF, argsToLocals, Value.category, maxLocals]; done) | rfl
set_option maxRecDepth 65536 in
set_option maxHeartbeats 4000000 in
theorem own_t0_0 (r17 : Int32) (hr_r17 : r17 = (own_rm4_ret (1 : Int32))) : ¬ (((8 : Int32) * r17) < (1 : Int32)) := by
  subst_vars; decide
set_option maxRecDepth 65536 in
set_option maxHeartbeats 4000000 in
theorem own_t0_1 (r17 : Int32) (hr_r17 : r17 = (own_rm4_ret (1 : Int32))) (hc19 : ¬ (((8 : Int32) * r17) < (1 : Int32))) : ((8 : Int32) * (r17 - (1 : Int32))) < (1 : Int32) := by
  subst_vars; decide
set_option maxRecDepth 65536 in
set_option maxHeartbeats 4000000 in
theorem own_t0_2 (r17 : Int32) (hr_r17 : r17 = (own_rm4_ret (1 : Int32))) (hc19 : ¬ (((8 : Int32) * r17) < (1 : Int32))) (hc20 : ((8 : Int32) * (r17 - (1 : Int32))) < (1 : Int32)) : r17 = (1 : Int32) := by
  subst_vars; decide
set_option maxRecDepth 65536 in
set_option maxHeartbeats 4000000 in
theorem own_t0_3 (r36 : Int32) (hr_r36 : r36 = (own_rm4_ret (1 : Int32))) : ¬ (((8 : Int32) * r36) < (1 : Int32)) := by
  subst_vars; decide
set_option maxRecDepth 65536 in
set_option maxHeartbeats 4000000 in
theorem own_t0_4 (r36 : Int32) (hr_r36 : r36 = (own_rm4_ret (1 : Int32))) (hc38 : ¬ (((8 : Int32) * r36) < (1 : Int32))) : ((8 : Int32) * (r36 - (1 : Int32))) < (1 : Int32) := by
  subst_vars; decide
set_option maxRecDepth 65536 in
set_option maxHeartbeats 4000000 in
theorem own_t0_5 (r36 : Int32) (hr_r36 : r36 = (own_rm4_ret (1 : Int32))) (hc38 : ¬ (((8 : Int32) * r36) < (1 : Int32))) (hc39 : ((8 : Int32) * (r36 - (1 : Int32))) < (1 : Int32)) : r36 = (1 : Int32) := by
  subst_vars; decide
set_option maxRecDepth 65536 in
set_option maxHeartbeats 4000000 in
theorem own_t0_6 (r57 : Int32) (hr_r57 : r57 = (own_rm4_ret (8 : Int32))) : ¬ (((8 : Int32) * r57) < (8 : Int32)) := by
  subst_vars; decide
set_option maxRecDepth 65536 in
set_option maxHeartbeats 4000000 in
theorem own_t0_7 (r57 : Int32) (hr_r57 : r57 = (own_rm4_ret (8 : Int32))) (hc60 : ¬ (((8 : Int32) * r57) < (8 : Int32))) : ((8 : Int32) * (r57 - (1 : Int32))) < (8 : Int32) := by
  subst_vars; decide
set_option maxRecDepth 65536 in
set_option maxHeartbeats 4000000 in
theorem own_t0_8 (r57 : Int32) (hr_r57 : r57 = (own_rm4_ret (8 : Int32))) (hc60 : ¬ (((8 : Int32) * r57) < (8 : Int32))) (hc61 : ((8 : Int32) * (r57 - (1 : Int32))) < (8 : Int32)) : r57 = (1 : Int32) := by
  subst_vars; decide
set_option maxRecDepth 65536 in
set_option maxHeartbeats 4000000 in
theorem own_t0_9 (r77 : Int32) (hr_r77 : r77 = (own_rm4_ret (8 : Int32))) : ¬ (((8 : Int32) * r77) < (8 : Int32)) := by
  subst_vars; decide
set_option maxRecDepth 65536 in
set_option maxHeartbeats 4000000 in
theorem own_t0_10 (r77 : Int32) (hr_r77 : r77 = (own_rm4_ret (8 : Int32))) (hc80 : ¬ (((8 : Int32) * r77) < (8 : Int32))) : ((8 : Int32) * (r77 - (1 : Int32))) < (8 : Int32) := by
  subst_vars; decide
set_option maxRecDepth 65536 in
set_option maxHeartbeats 4000000 in
theorem own_t0_11 (r77 : Int32) (hr_r77 : r77 = (own_rm4_ret (8 : Int32))) (hc80 : ¬ (((8 : Int32) * r77) < (8 : Int32))) (hc81 : ((8 : Int32) * (r77 - (1 : Int32))) < (8 : Int32)) : r77 = (1 : Int32) := by
  subst_vars; decide
set_option maxRecDepth 65536 in
set_option maxHeartbeats 4000000 in
theorem own_t0_12 (r99 : Int32) (hr_r99 : r99 = (own_rm4_ret (16 : Int32))) : ¬ (((8 : Int32) * r99) < (16 : Int32)) := by
  subst_vars; decide
set_option maxRecDepth 65536 in
set_option maxHeartbeats 4000000 in
theorem own_t0_13 (r99 : Int32) (hr_r99 : r99 = (own_rm4_ret (16 : Int32))) (hc103 : ¬ (((8 : Int32) * r99) < (16 : Int32))) : ((8 : Int32) * (r99 - (1 : Int32))) < (16 : Int32) := by
  subst_vars; decide
set_option maxRecDepth 65536 in
set_option maxHeartbeats 4000000 in
theorem own_t0_14 (r99 : Int32) (hr_r99 : r99 = (own_rm4_ret (16 : Int32))) (hc103 : ¬ (((8 : Int32) * r99) < (16 : Int32))) (hc104 : ((8 : Int32) * (r99 - (1 : Int32))) < (16 : Int32)) : r99 = (2 : Int32) := by
  subst_vars; decide
set_option maxRecDepth 65536 in
set_option maxHeartbeats 4000000 in
theorem own_t0_15 (r120 : Int32) (hr_r120 : r120 = (own_rm4_ret (16 : Int32))) : ¬ (((8 : Int32) * r120) < (16 : Int32)) := by
  subst_vars; decide
set_option maxRecDepth 65536 in
set_option maxHeartbeats 4000000 in
theorem own_t0_16 (r120 : Int32) (hr_r120 : r120 = (own_rm4_ret (16 : Int32))) (hc124 : ¬ (((8 : Int32) * r120) < (16 : Int32))) : ((8 : Int32) * (r120 - (1 : Int32))) < (16 : Int32) := by
  subst_vars; decide
set_option maxRecDepth 65536 in
set_option maxHeartbeats 4000000 in
theorem own_t0_17 (r120 : Int32) (hr_r120 : r120 = (own_rm4_ret (16 : Int32))) (hc124 : ¬ (((8 : Int32) * r120) < (16 : Int32))) (hc125 : ((8 : Int32) * (r120 - (1 : Int32))) < (16 : Int32)) : r120 = (2 : Int32) := by
  subst_vars; decide
set_option maxRecDepth 65536 in
set_option maxHeartbeats 4000000 in
theorem own_t0_18 (r143 : Int32) (hr_r143 : r143 = (own_rm4_ret (32 : Int32))) : ¬ (((8 : Int32) * r143) < (32 : Int32)) := by
  subst_vars; decide
set_option maxRecDepth 65536 in
set_option maxHeartbeats 4000000 in
theorem own_t0_19 (r143 : Int32) (hr_r143 : r143 = (own_rm4_ret (32 : Int32))) (hc148 : ¬ (((8 : Int32) * r143) < (32 : Int32))) : ((8 : Int32) * (r143 - (1 : Int32))) < (32 : Int32) := by
  subst_vars; decide
set_option maxRecDepth 65536 in
set_option maxHeartbeats 4000000 in
theorem own_t0_20 (r143 : Int32) (hr_r143 : r143 = (own_rm4_ret (32 : Int32))) (hc148 : ¬ (((8 : Int32) * r143) < (32 : Int32))) (hc149 : ((8 : Int32) * (r143 - (1 : Int32))) < (32 : Int32)) : r143 = (4 : Int32) := by
  subst_vars; decide
set_option maxRecDepth 65536 in
set_option maxHeartbeats 4000000 in
theorem own_t0_21 (r165 : Int32) (hr_r165 : r165 = (own_rm4_ret (32 : Int32))) : ¬ (((8 : Int32) * r165) < (32 : Int32)) := by
  subst_vars; decide
set_option maxRecDepth 65536 in
set_option maxHeartbeats 4000000 in
theorem own_t0_22 (r165 : Int32) (hr_r165 : r165 = (own_rm4_ret (32 : Int32))) (hc170 : ¬ (((8 : Int32) * r165) < (32 : Int32))) : ((8 : Int32) * (r165 - (1 : Int32))) < (32 : Int32) := by
  subst_vars; decide
set_option maxRecDepth 65536 in
set_option maxHeartbeats 4000000 in
theorem own_t0_23 (r165 : Int32) (hr_r165 : r165 = (own_rm4_ret (32 : Int32))) (hc170 : ¬ (((8 : Int32) * r165) < (32 : Int32))) (hc171 : ((8 : Int32) * (r165 - (1 : Int32))) < (32 : Int32)) : r165 = (4 : Int32) := by
  subst_vars; decide
set_option maxRecDepth 65536 in
set_option maxHeartbeats 4000000 in
theorem own_t0_24 (r188 : Int32) (hr_r188 : r188 = (own_rm4_ret (64 : Int32))) : ¬ (((8 : Int32) * r188) < (64 : Int32)) := by
  subst_vars; decide
set_option maxRecDepth 65536 in
set_option maxHeartbeats 4000000 in
theorem own_t0_25 (r188 : Int32) (hr_r188 : r188 = (own_rm4_ret (64 : Int32))) (hc193 : ¬ (((8 : Int32) * r188) < (64 : Int32))) : ((8 : Int32) * (r188 - (1 : Int32))) < (64 : Int32) := by
  subst_vars; decide
set_option maxRecDepth 65536 in
set_option maxHeartbeats 4000000 in
theorem own_t0_26 (r188 : Int32) (hr_r188 : r188 = (own_rm4_ret (64 : Int32))) (hc193 : ¬ (((8 : Int32) * r188) < (64 : Int32))) (hc194 : ((8 : Int32) * (r188 - (1 : Int32))) < (64 : Int32)) : r188 = (8 : Int32) := by
  subst_vars; decide
set_option maxRecDepth 65536 in
set_option maxHeartbeats 4000000 in
theorem own_t0_27 (r210 : Int32) (hr_r210 : r210 = (own_rm4_ret (64 : Int32))) : ¬ (((8 : Int32) * r210) < (64 : Int32)) := by
  subst_vars; decide
set_option maxRecDepth 65536 in
set_option maxHeartbeats 4000000 in
theorem own_t0_28 (r210 : Int32) (hr_r210 : r210 = (own_rm4_ret (64 : Int32))) (hc215 : ¬ (((8 : Int32) * r210) < (64 : Int32))) : ((8 : Int32) * (r210 - (1 : Int32))) < (64 : Int32) := by
  subst_vars; decide
set_option maxRecDepth 65536 in
set_option maxHeartbeats 4000000 in
theorem own_t0_29 (r210 : Int32) (hr_r210 : r210 = (own_rm4_ret (64 : Int32))) (hc215 : ¬ (((8 : Int32) * r210) < (64 : Int32))) (hc216 : ((8 : Int32) * (r210 - (1 : Int32))) < (64 : Int32)) : r210 = (8 : Int32) := by
  subst_vars; decide
def own_Q0 (Z : State) (p_1 : Int32) (p_2 : Int32) (h0 : Heap) (n0 : Nat) (v : Option Value) (h : Heap) (L : List Loc) : Prop := v = some (.int (1 : Int32)) ∧ Fr n0 L
set_option maxRecDepth 65536 in
set_option maxHeartbeats 40000000 in
theorem own_rm0 (l : Launch) (Z : State) (a0 : Array Value) (hw : ∀ d ∈ tables_1, d.before a0 Z = true) (ws : List Jvm.Cond) (p_1 : Int32) (p_2 : Int32) (h0 : Heap) (n0 : Nat) (Z0 : n0 ≤ h0.size) :
    MetFree l x (head1 (Jvm.Cond.code x code maxLocals ret :: ws) room_1) (fun a U => a = #[(.int p_1), (.int p_2)] ∧ Z.Warmed39 U.vm ∧ U.heap = h0) (fun _ _ _ _ _ => True) (fun _ U o U' => ∃ v L, o = .returned v ∧ own_Q0 Z p_1 p_2 h0 n0 v U'.heap L ∧ FrameEnd U o U' L 1 2) := by
  refine MetFree.of_bodySF (plainFor_of_name own_pn2) hisR ?_
  intro p e s m args below meth c s₁ Bd hml0 hP hK
  obtain ⟨rfl, hZ, hh⟩ := hP
  have hx := Bd.exec
  have hby := Bd.bytes
  have hml : c.maxLocals = 9 := hml0
  have hown : s.vm.findClass "com/example/tessera/tessera/IntTypeFixedSizePinLaw" = some m.cls := findClass_of_methodNamed Bd.named
  have hnm := (name_of_methodNamed Bd.named Bd.method).1
  have X0 : Stand p l e room_1 s m #[(.int p_1), (.int p_2)] below meth c s₁ [] 0 0 := Stand.of_body Bd
  have e0 : s₁.heap = h0 := by rw [← hh, Bd.state]; rfl
  have N0 := Fr.nil n0
  have z0 : n0 ≤ h0.size := Z0
  show own_Go p.tables e below (fun t o => t.status = .running ∧ Ended t below o ∧ ∃ v L, o = .returned v ∧ own_Q0 Z p_1 p_2 h0 n0 v t.heap L ∧ FrameEnd s o t L 1 2) s₁ (entryFrame m #[(.int p_1), (.int p_2)] maxLocals)
  rw [own_ef_own_rm0 m p_1 p_2]
  show own_Go _ _ _ _ s₁ (mkF m 0 #[.val (.int p_1), .val (.int p_2), .unset, .unset, .unset, .unset, .unset, .unset, .unset] [])
  refine own_go (fun _ k => XS.iloadN X0.here hx rfl (hb hby at_0) rfl k) ?_
  show own_Go _ _ _ _ s₁ (mkF m 1 #[.val (.int p_1), .val (.int p_2), .unset, .unset, .unset, .unset, .unset, .unset, .unset] [(.int p_1)])
  refine own_go (fun _ k => X0.ldcInt hx hown (mvT hZ (hw _ (List.mem_of_getElem? (i := 0) rfl))) (g := (mkF m 1 #[.val (.int p_1), .val (.int p_2), .unset, .unset, .unset, .unset, .unset, .unset, .unset] [(.int p_1)])) rfl (hb hby at_1) _ k) ?_
  show own_Go _ _ _ _ s₁ (mkF m 3 #[.val (.int p_1), .val (.int p_2), .unset, .unset, .unset, .unset, .unset, .unset, .unset] [(.int (2147483647 : Int32)), (.int p_1)])
  refine own_go (fun _ k => XS.iand X0.here hx rfl (hb hby at_3) rfl k) ?_
  show own_Go _ _ _ _ s₁ (mkF m 4 #[.val (.int p_1), .val (.int p_2), .unset, .unset, .unset, .unset, .unset, .unset, .unset] [(.int (p_1 &&& (2147483647 : Int32)))])
  refine own_go (fun _ k => XS.iconst X0.here hx rfl (hb hby at_4) k) ?_
  show own_Go _ _ _ _ s₁ (mkF m 5 #[.val (.int p_1), .val (.int p_2), .unset, .unset, .unset, .unset, .unset, .unset, .unset] [(.int (5 : Int32)), (.int (p_1 &&& (2147483647 : Int32)))])
  have nz1 : (5 : Int32) ≠ 0 := by decide
  refine own_go (fun _ k => iremM X0 hx rfl (hb hby at_5) rfl nz1 k) ?_
  show own_Go _ _ _ _ s₁ (mkF m 6 #[.val (.int p_1), .val (.int p_2), .unset, .unset, .unset, .unset, .unset, .unset, .unset] [(.int ((p_1 &&& (2147483647 : Int32)) % (5 : Int32)))])
  refine own_go (fun _ k => XS.istoreN X0.here hx rfl (hb hby at_6) rfl (l' := #[.val (.int p_1), .val (.int p_2), .val (.int ((p_1 &&& (2147483647 : Int32)) % (5 : Int32))), .unset, .unset, .unset, .unset, .unset, .unset]) rfl k) ?_
  show own_Go _ _ _ _ s₁ (mkF m 7 #[.val (.int p_1), .val (.int p_2), .val (.int ((p_1 &&& (2147483647 : Int32)) % (5 : Int32))), .unset, .unset, .unset, .unset, .unset, .unset] [])
  generalize hdv2 : ((p_1 &&& (2147483647 : Int32)) % (5 : Int32)) = v2
  show own_Go _ _ _ _ s₁ (mkF m 7 #[.val (.int p_1), .val (.int p_2), .val (.int v2), .unset, .unset, .unset, .unset, .unset, .unset] [])
  refine own_go (fun _ k => XS.iloadN X0.here hx rfl (hb hby at_7) rfl k) ?_
  show own_Go _ _ _ _ s₁ (mkF m 8 #[.val (.int p_1), .val (.int p_2), .val (.int v2), .unset, .unset, .unset, .unset, .unset, .unset] [(.int v2)])
  by_cases hc3 : v2 = 0
  · refine own_go (fun _ k => XS.ifNo X0.here hx rfl (hb hby at_8) rfl (Jvm.Free.XT.i0_ne_f hc3) k) ?_
    show own_Go _ _ _ _ s₁ (mkF m 11 #[.val (.int p_1), .val (.int p_2), .val (.int v2), .unset, .unset, .unset, .unset, .unset, .unset] [])
    refine own_go (fun _ k => XS.iconst X0.here hx rfl (hb hby at_11) k) ?_
    show own_Go _ _ _ _ s₁ (mkF m 12 #[.val (.int p_1), .val (.int p_2), .val (.int v2), .unset, .unset, .unset, .unset, .unset, .unset] [(.int (1 : Int32))])
    refine own_go (fun _ k => XS.istoreN X0.here hx rfl (hb hby at_12) rfl (l' := #[.val (.int p_1), .val (.int p_2), .val (.int v2), .val (.int (1 : Int32)), .unset, .unset, .unset, .unset, .unset]) rfl k) ?_
    show own_Go _ _ _ _ s₁ (mkF m 13 #[.val (.int p_1), .val (.int p_2), .val (.int v2), .val (.int (1 : Int32)), .unset, .unset, .unset, .unset, .unset] [])
    refine own_go (fun _ k => XS.goto X0.here hx rfl (pc0 := 13) (pc' := 52) rfl (hb hby at_13) (by decide) (by decide) k) ?_
    show own_Go _ _ _ _ s₁ (mkF m 52 #[.val (.int p_1), .val (.int p_2), .val (.int v2), .val (.int (1 : Int32)), .unset, .unset, .unset, .unset, .unset] [])
    refine own_go (fun _ k => XS.iloadN X0.here hx rfl (hb hby at_52) rfl k) ?_
    show own_Go _ _ _ _ s₁ (mkF m 53 #[.val (.int p_1), .val (.int p_2), .val (.int v2), .val (.int (1 : Int32)), .unset, .unset, .unset, .unset, .unset] [(.int p_2)])
    refine own_go (fun _ k => XS.iconst X0.here hx rfl (hb hby at_53) k) ?_
    show own_Go _ _ _ _ s₁ (mkF m 54 #[.val (.int p_1), .val (.int p_2), .val (.int v2), .val (.int (1 : Int32)), .unset, .unset, .unset, .unset, .unset] [(.int (1 : Int32)), (.int p_2)])
    refine own_go (fun _ k => XS.iand X0.here hx rfl (hb hby at_54) rfl k) ?_
    show own_Go _ _ _ _ s₁ (mkF m 55 #[.val (.int p_1), .val (.int p_2), .val (.int v2), .val (.int (1 : Int32)), .unset, .unset, .unset, .unset, .unset] [(.int (p_2 &&& (1 : Int32)))])
    by_cases hc4 : (p_2 &&& (1 : Int32)) = 0
    · refine own_go (fun _ k => XS.ifYes X0.here hx rfl (pc0 := 55) (pc' := 62) rfl (hb hby at_55) rfl (Jvm.Free.XT.i0_eq_t hc4) (by decide) (by decide) k) ?_
      show own_Go _ _ _ _ s₁ (mkF m 62 #[.val (.int p_1), .val (.int p_2), .val (.int v2), .val (.int (1 : Int32)), .unset, .unset, .unset, .unset, .unset] [])
      refine own_go (fun _ k => XS.iconst X0.here hx rfl (hb hby at_62) k) ?_
      show own_Go _ _ _ _ s₁ (mkF m 63 #[.val (.int p_1), .val (.int p_2), .val (.int v2), .val (.int (1 : Int32)), .unset, .unset, .unset, .unset, .unset] [(.int (0 : Int32))])
      refine own_go (fun _ k => XS.istore X0.here hx rfl (hb hby at_63) rfl (l' := #[.val (.int p_1), .val (.int p_2), .val (.int v2), .val (.int (1 : Int32)), .val (.int (0 : Int32)), .unset, .unset, .unset, .unset]) rfl k) ?_
      show own_Go _ _ _ _ s₁ (mkF m 65 #[.val (.int p_1), .val (.int p_2), .val (.int v2), .val (.int (1 : Int32)), .val (.int (0 : Int32)), .unset, .unset, .unset, .unset] [])
      obtain ⟨T5, h5, X5, e5, E5, A5, D5, Y5, st5⟩ := newO X0 hx hZ hown (hw _ (List.mem_of_getElem? (i := 1) rfl)) (hw _ (List.mem_of_getElem? (i := 2) rfl)) (hw _ (List.mem_of_getElem? (i := 3) rfl)) e0 (g := (mkF m 65 #[.val (.int p_1), .val (.int p_2), .val (.int v2), .val (.int (1 : Int32)), .val (.int (0 : Int32)), .unset, .unset, .unset, .unset] [])) rfl (hb hby at_65) (by decide) (by decide)
      obtain ⟨b5, g5⟩ : ∃ z, z = h0.size := ⟨_, rfl⟩
      rw [← g5] at A5 D5 Y5 st5
      have z6 := E5.1
      have lt_b5 := A5.lt
      have F_bits_b5 : Fld Z h5 b5 "com/example/tessera/tessera/IntType" "bits" "I" (.int (0 : Int32)) := D5 (Or.inr (hw _ (List.mem_of_getElem? (i := 16) rfl))) (ty := .int) (by decide)
      have F_signed_b5 : Fld Z h5 b5 "com/example/tessera/tessera/IntType" "signed" "Z" (.int (0 : Int32)) := D5 (Or.inr (hw _ (List.mem_of_getElem? (i := 18) rfl))) (ty := .boolean) (by decide)
      refine own_go (fun _ k => st5 _ k) ?_
      show own_Go _ _ _ _ T5 (mkF m 68 #[.val (.int p_1), .val (.int p_2), .val (.int v2), .val (.int (1 : Int32)), .val (.int (0 : Int32)), .unset, .unset, .unset, .unset] [(.ref b5)])
      refine own_go (fun _ k => XS.dup X5.here hx rfl (hb hby at_68) rfl rfl k) ?_
      show own_Go _ _ _ _ T5 (mkF m 69 #[.val (.int p_1), .val (.int p_2), .val (.int v2), .val (.int (1 : Int32)), .val (.int (0 : Int32)), .unset, .unset, .unset, .unset] [(.ref b5), (.ref b5)])
      refine own_go (fun _ k => XS.iloadN X5.here hx rfl (hb hby at_69) rfl k) ?_
      show own_Go _ _ _ _ T5 (mkF m 70 #[.val (.int p_1), .val (.int p_2), .val (.int v2), .val (.int (1 : Int32)), .val (.int (0 : Int32)), .unset, .unset, .unset, .unset] [(.int (1 : Int32)), (.ref b5), (.ref b5)])
      refine own_go (fun _ k => XS.iload X5.here hx rfl (hb hby at_70) rfl k) ?_
      show own_Go _ _ _ _ T5 (mkF m 72 #[.val (.int p_1), .val (.int p_2), .val (.int v2), .val (.int (1 : Int32)), .val (.int (0 : Int32)), .unset, .unset, .unset, .unset] [(.int (0 : Int32)), (.int (1 : Int32)), (.ref b5), (.ref b5)])
      obtain ⟨_, _, ⟨T7, L7, k7, n7⟩, -, X7, ⟨Lc7, hQ7, l7, y7, z7⟩, st7⟩ := X5.specialBack hx (y := (⟨"com/example/tessera/tessera/IntType", "<init>", "(IZ)V"⟩ : MethodName)) rfl hown (mvT hZ (hw _ (List.mem_of_getElem? (i := 4) rfl))) (mvT hZ (hw _ (List.mem_of_getElem? (i := 5) rfl))) (mvT hZ (hw _ (List.mem_of_getElem? (i := 6) rfl))) (by decide) (backOf (W := 1) (own_rm1 l Z a0 hw [] b5 (1 : Int32) (0 : Int32) (0 : Int32) (0 : Int32) h5 n0 (by omega) (show (1 : Int32) = 1 ∨ (1 : Int32) = 8 ∨ (1 : Int32) = 16 ∨ (1 : Int32) = 32 ∨ (1 : Int32) = 64 by first | assumption | omega | decide) A5 F_bits_b5 F_signed_b5 (by omega)) hZ (hw _ (List.mem_of_getElem? (i := 6) rfl)) (hw _ (List.mem_of_getElem? (i := 3) rfl)) (by decide) (by decide)) (g := (mkF m 72 #[.val (.int p_1), .val (.int p_2), .val (.int v2), .val (.int (1 : Int32)), .val (.int (0 : Int32)), .unset, .unset, .unset, .unset] [(.int (0 : Int32)), (.int (1 : Int32)), (.ref b5), (.ref b5)])) rfl (by rw [hml]; rfl) (Steps.refl _) (a := b5) (argsL := [(.int (1 : Int32)), (.int (0 : Int32))]) (rest := [(.ref b5)]) (lenOf own_pd1 rfl) rfl (by show 2 * 0 + _ ≤ _; exact Nat.le_of_eq rfl) (hb hby at_72) (fun _ _ => ⟨rfl, e5, (by decide : 1 + 0 ≤ _), (by decide : 2 + 0 ≤ _)⟩)
      dsimp only [Pt.U, Pt.locs, Pt.cells, Pt.slots] at X7 l7 y7 z7 st7 hQ7
      subst l7 y7 z7
      obtain ⟨rfl, N7q, K7q, f8, f9, f10⟩ := hQ7
      have N7 := Fr.app N0 N7q
      have z11 := K7q.1
      have z12 := f8.lt
      have z13 := f9.lt
      obtain ⟨v14, hdv14⟩ : ∃ z : Int32, z = (nar .boolean (0 : Int32)) := ⟨_, rfl⟩
      rw [← hdv14] at f10
      have z15 := f10.lt
      refine own_go (fun _ k => st7.trans k) ?_
      show own_Go _ _ _ _ T7 (mkF m 75 #[.val (.int p_1), .val (.int p_2), .val (.int v2), .val (.int (1 : Int32)), .val (.int (0 : Int32)), .unset, .unset, .unset, .unset] [(.ref b5)])
      refine own_go (fun _ k => XS.astore X7.here hx rfl (hb hby at_75) rfl rfl (l' := #[.val (.int p_1), .val (.int p_2), .val (.int v2), .val (.int (1 : Int32)), .val (.int (0 : Int32)), .val (.ref b5), .unset, .unset, .unset]) rfl k) ?_
      show own_Go _ _ _ _ T7 (mkF m 77 #[.val (.int p_1), .val (.int p_2), .val (.int v2), .val (.int (1 : Int32)), .val (.int (0 : Int32)), .val (.ref b5), .unset, .unset, .unset] [])
      refine own_go (fun _ k => XS.aload X7.here hx rfl (hb hby at_77) rfl rfl k) ?_
      show own_Go _ _ _ _ T7 (mkF m 79 #[.val (.int p_1), .val (.int p_2), .val (.int v2), .val (.int (1 : Int32)), .val (.int (0 : Int32)), .val (.ref b5), .unset, .unset, .unset] [(.ref b5)])
      obtain ⟨cq16, kq16, q16a, q16b, q16c⟩ := isOf hZ rfl f8
      obtain ⟨_, _, ⟨T16, L16, k16, n16⟩, -, X16, ⟨Lc16, hQ16, l16, y16, z16⟩, st16⟩ := X7.virtualBack hx (y := (⟨"com/example/tessera/tessera/IntType", "fixedSize", "()I"⟩ : MethodName)) (z := (⟨"com/example/tessera/tessera/IntType", "fixedSize", "()I"⟩ : MethodName)) hown (mvT hZ (hw _ (List.mem_of_getElem? (i := 19) rfl))) (mvT hZ (hw _ (List.mem_of_getElem? (i := 20) rfl))) (notFace_of_selects (args := #[]) (mvT hZ (hw _ (List.mem_of_getElem? (i := 22) rfl)))) (mvT hZ (hw _ (List.mem_of_getElem? (i := 22) rfl))) (mvT hZ (hw _ (List.mem_of_getElem? (i := 21) rfl))) (by decide) (backOf (W := 0) (own_rm4 l Z a0 hw [] b5 (1 : Int32) T7.heap n0 (by omega) f9) hZ (hw _ (List.mem_of_getElem? (i := 23) rfl)) (hw _ (List.mem_of_getElem? (i := 3) rfl)) (by decide) (by decide)) q16a q16c (g := (mkF m 79 #[.val (.int p_1), .val (.int p_2), .val (.int v2), .val (.int (1 : Int32)), .val (.int (0 : Int32)), .val (.ref b5), .unset, .unset, .unset] [(.ref b5)])) rfl (by rw [hml]; rfl) (Steps.refl _) (argsL := []) (rest := []) (lenOf own_pd2 rfl) rfl (by show 2 * 0 + _ ≤ _; exact Nat.le_of_eq rfl) (hb hby at_79) (fun _ _ => ⟨rfl, rfl, (by decide : 1 + 0 ≤ _), (by decide : 2 + 0 ≤ _)⟩)
      dsimp only [Pt.U, Pt.locs, Pt.cells, Pt.slots] at X16 l16 y16 z16 st16 hQ16
      subst l16 y16 z16
      obtain ⟨r17, rfl, N16q, hr_r17, e16⟩ := hQ16
      have N16 := Fr.app N7 N16q
      refine own_go (fun _ k => st16.trans k) ?_
      show own_Go _ _ _ _ T16 (mkF m 82 #[.val (.int p_1), .val (.int p_2), .val (.int v2), .val (.int (1 : Int32)), .val (.int (0 : Int32)), .val (.ref b5), .unset, .unset, .unset] [(.int r17)])
      refine own_go (fun _ k => XS.istore X16.here hx rfl (hb hby at_82) rfl (l' := #[.val (.int p_1), .val (.int p_2), .val (.int v2), .val (.int (1 : Int32)), .val (.int (0 : Int32)), .val (.ref b5), .val (.int r17), .unset, .unset]) rfl k) ?_
      show own_Go _ _ _ _ T16 (mkF m 84 #[.val (.int p_1), .val (.int p_2), .val (.int v2), .val (.int (1 : Int32)), .val (.int (0 : Int32)), .val (.ref b5), .val (.int r17), .unset, .unset] [])
      refine own_go (fun _ k => XS.iloadN X16.here hx rfl (hb hby at_84) rfl k) ?_
      show own_Go _ _ _ _ T16 (mkF m 85 #[.val (.int p_1), .val (.int p_2), .val (.int v2), .val (.int (1 : Int32)), .val (.int (0 : Int32)), .val (.ref b5), .val (.int r17), .unset, .unset] [(.int v2)])
      refine own_go (fun _ k => XS.ifNo X16.here hx rfl (hb hby at_85) rfl (Jvm.Free.XT.i0_ne_f hc3) k) ?_
      show own_Go _ _ _ _ T16 (mkF m 88 #[.val (.int p_1), .val (.int p_2), .val (.int v2), .val (.int (1 : Int32)), .val (.int (0 : Int32)), .val (.ref b5), .val (.int r17), .unset, .unset] [])
      refine own_go (fun _ k => XS.iconst X16.here hx rfl (hb hby at_88) k) ?_
      show own_Go _ _ _ _ T16 (mkF m 89 #[.val (.int p_1), .val (.int p_2), .val (.int v2), .val (.int (1 : Int32)), .val (.int (0 : Int32)), .val (.ref b5), .val (.int r17), .unset, .unset] [(.int (1 : Int32))])
      refine own_go (fun _ k => XS.istore X16.here hx rfl (hb hby at_89) rfl (l' := #[.val (.int p_1), .val (.int p_2), .val (.int v2), .val (.int (1 : Int32)), .val (.int (0 : Int32)), .val (.ref b5), .val (.int r17), .val (.int (1 : Int32)), .unset]) rfl k) ?_
      show own_Go _ _ _ _ T16 (mkF m 91 #[.val (.int p_1), .val (.int p_2), .val (.int v2), .val (.int (1 : Int32)), .val (.int (0 : Int32)), .val (.ref b5), .val (.int r17), .val (.int (1 : Int32)), .unset] [])
      refine own_go (fun _ k => XS.goto X16.here hx rfl (pc0 := 91) (pc' := 131) rfl (hb hby at_91) (by decide) (by decide) k) ?_
      show own_Go _ _ _ _ T16 (mkF m 131 #[.val (.int p_1), .val (.int p_2), .val (.int v2), .val (.int (1 : Int32)), .val (.int (0 : Int32)), .val (.ref b5), .val (.int r17), .val (.int (1 : Int32)), .unset] [])
      refine own_go (fun _ k => XS.bipush X16.here hx rfl (hb hby at_131) k) ?_
      show own_Go _ _ _ _ T16 (mkF m 133 #[.val (.int p_1), .val (.int p_2), .val (.int v2), .val (.int (1 : Int32)), .val (.int (0 : Int32)), .val (.ref b5), .val (.int r17), .val (.int (1 : Int32)), .unset] [(.int (8 : Int32))])
      refine own_go (fun _ k => XS.iload X16.here hx rfl (hb hby at_133) rfl k) ?_
      show own_Go _ _ _ _ T16 (mkF m 135 #[.val (.int p_1), .val (.int p_2), .val (.int v2), .val (.int (1 : Int32)), .val (.int (0 : Int32)), .val (.ref b5), .val (.int r17), .val (.int (1 : Int32)), .unset] [(.int r17), (.int (8 : Int32))])
      refine own_go (fun _ k => XS.imul X16.here hx rfl (hb hby at_135) rfl k) ?_
      show own_Go _ _ _ _ T16 (mkF m 136 #[.val (.int p_1), .val (.int p_2), .val (.int v2), .val (.int (1 : Int32)), .val (.int (0 : Int32)), .val (.ref b5), .val (.int r17), .val (.int (1 : Int32)), .unset] [(.int ((8 : Int32) * r17))])
      refine own_go (fun _ k => XS.iloadN X16.here hx rfl (hb hby at_136) rfl k) ?_
      show own_Go _ _ _ _ T16 (mkF m 137 #[.val (.int p_1), .val (.int p_2), .val (.int v2), .val (.int (1 : Int32)), .val (.int (0 : Int32)), .val (.ref b5), .val (.int r17), .val (.int (1 : Int32)), .unset] [(.int (1 : Int32)), (.int ((8 : Int32) * r17))])
      have hc19 : ¬ (((8 : Int32) * r17) < (1 : Int32)) := own_t0_0 r17 hr_r17
      refine own_go (fun _ k => XS.icmpNo X16.here hx rfl (hb hby at_137) rfl (Jvm.Free.XT.ii_lt_f hc19) k) ?_
      show own_Go _ _ _ _ T16 (mkF m 140 #[.val (.int p_1), .val (.int p_2), .val (.int v2), .val (.int (1 : Int32)), .val (.int (0 : Int32)), .val (.ref b5), .val (.int r17), .val (.int (1 : Int32)), .unset] [])
      refine own_go (fun _ k => XS.bipush X16.here hx rfl (hb hby at_140) k) ?_
      show own_Go _ _ _ _ T16 (mkF m 142 #[.val (.int p_1), .val (.int p_2), .val (.int v2), .val (.int (1 : Int32)), .val (.int (0 : Int32)), .val (.ref b5), .val (.int r17), .val (.int (1 : Int32)), .unset] [(.int (8 : Int32))])
      refine own_go (fun _ k => XS.iload X16.here hx rfl (hb hby at_142) rfl k) ?_
      show own_Go _ _ _ _ T16 (mkF m 144 #[.val (.int p_1), .val (.int p_2), .val (.int v2), .val (.int (1 : Int32)), .val (.int (0 : Int32)), .val (.ref b5), .val (.int r17), .val (.int (1 : Int32)), .unset] [(.int r17), (.int (8 : Int32))])
      refine own_go (fun _ k => XS.iconst X16.here hx rfl (hb hby at_144) k) ?_
      show own_Go _ _ _ _ T16 (mkF m 145 #[.val (.int p_1), .val (.int p_2), .val (.int v2), .val (.int (1 : Int32)), .val (.int (0 : Int32)), .val (.ref b5), .val (.int r17), .val (.int (1 : Int32)), .unset] [(.int (1 : Int32)), (.int r17), (.int (8 : Int32))])
      refine own_go (fun _ k => XS.isub X16.here hx rfl (hb hby at_145) rfl k) ?_
      show own_Go _ _ _ _ T16 (mkF m 146 #[.val (.int p_1), .val (.int p_2), .val (.int v2), .val (.int (1 : Int32)), .val (.int (0 : Int32)), .val (.ref b5), .val (.int r17), .val (.int (1 : Int32)), .unset] [(.int (r17 - (1 : Int32))), (.int (8 : Int32))])
      refine own_go (fun _ k => XS.imul X16.here hx rfl (hb hby at_146) rfl k) ?_
      show own_Go _ _ _ _ T16 (mkF m 147 #[.val (.int p_1), .val (.int p_2), .val (.int v2), .val (.int (1 : Int32)), .val (.int (0 : Int32)), .val (.ref b5), .val (.int r17), .val (.int (1 : Int32)), .unset] [(.int ((8 : Int32) * (r17 - (1 : Int32))))])
      refine own_go (fun _ k => XS.iloadN X16.here hx rfl (hb hby at_147) rfl k) ?_
      show own_Go _ _ _ _ T16 (mkF m 148 #[.val (.int p_1), .val (.int p_2), .val (.int v2), .val (.int (1 : Int32)), .val (.int (0 : Int32)), .val (.ref b5), .val (.int r17), .val (.int (1 : Int32)), .unset] [(.int (1 : Int32)), (.int ((8 : Int32) * (r17 - (1 : Int32))))])
      have hc20 : ((8 : Int32) * (r17 - (1 : Int32))) < (1 : Int32) := own_t0_1 r17 hr_r17 hc19
      refine own_go (fun _ k => XS.icmpNo X16.here hx rfl (hb hby at_148) rfl (Jvm.Free.XT.ii_ge_f hc20) k) ?_
      show own_Go _ _ _ _ T16 (mkF m 151 #[.val (.int p_1), .val (.int p_2), .val (.int v2), .val (.int (1 : Int32)), .val (.int (0 : Int32)), .val (.ref b5), .val (.int r17), .val (.int (1 : Int32)), .unset] [])
      refine own_go (fun _ k => XS.iconst X16.here hx rfl (hb hby at_151) k) ?_
      show own_Go _ _ _ _ T16 (mkF m 152 #[.val (.int p_1), .val (.int p_2), .val (.int v2), .val (.int (1 : Int32)), .val (.int (0 : Int32)), .val (.ref b5), .val (.int r17), .val (.int (1 : Int32)), .unset] [(.int (1 : Int32))])
      refine own_go (fun _ k => XS.goto X16.here hx rfl (pc0 := 152) (pc' := 156) rfl (hb hby at_152) (by decide) (by decide) k) ?_
      show own_Go _ _ _ _ T16 (mkF m 156 #[.val (.int p_1), .val (.int p_2), .val (.int v2), .val (.int (1 : Int32)), .val (.int (0 : Int32)), .val (.ref b5), .val (.int r17), .val (.int (1 : Int32)), .unset] [(.int (1 : Int32))])
      refine own_go (fun _ k => XS.istore X16.here hx rfl (hb hby at_156) rfl (l' := #[.val (.int p_1), .val (.int p_2), .val (.int v2), .val (.int (1 : Int32)), .val (.int (0 : Int32)), .val (.ref b5), .val (.int r17), .val (.int (1 : Int32)), .val (.int (1 : Int32))]) rfl k) ?_
      show own_Go _ _ _ _ T16 (mkF m 158 #[.val (.int p_1), .val (.int p_2), .val (.int v2), .val (.int (1 : Int32)), .val (.int (0 : Int32)), .val (.ref b5), .val (.int r17), .val (.int (1 : Int32)), .val (.int (1 : Int32))] [])
      refine own_go (fun _ k => XS.iload X16.here hx rfl (hb hby at_158) rfl k) ?_
      show own_Go _ _ _ _ T16 (mkF m 160 #[.val (.int p_1), .val (.int p_2), .val (.int v2), .val (.int (1 : Int32)), .val (.int (0 : Int32)), .val (.ref b5), .val (.int r17), .val (.int (1 : Int32)), .val (.int (1 : Int32))] [(.int r17)])
      refine own_go (fun _ k => XS.iload X16.here hx rfl (hb hby at_160) rfl k) ?_
      show own_Go _ _ _ _ T16 (mkF m 162 #[.val (.int p_1), .val (.int p_2), .val (.int v2), .val (.int (1 : Int32)), .val (.int (0 : Int32)), .val (.ref b5), .val (.int r17), .val (.int (1 : Int32)), .val (.int (1 : Int32))] [(.int (1 : Int32)), (.int r17)])
      have hc21 : r17 = (1 : Int32) := own_t0_2 r17 hr_r17 hc19 hc20
      refine own_go (fun _ k => XS.icmpNo X16.here hx rfl (hb hby at_162) rfl (Jvm.Free.XT.ii_ne_f hc21) k) ?_
      show own_Go _ _ _ _ T16 (mkF m 165 #[.val (.int p_1), .val (.int p_2), .val (.int v2), .val (.int (1 : Int32)), .val (.int (0 : Int32)), .val (.ref b5), .val (.int r17), .val (.int (1 : Int32)), .val (.int (1 : Int32))] [])
      refine own_go (fun _ k => XS.iload X16.here hx rfl (hb hby at_165) rfl k) ?_
      show own_Go _ _ _ _ T16 (mkF m 167 #[.val (.int p_1), .val (.int p_2), .val (.int v2), .val (.int (1 : Int32)), .val (.int (0 : Int32)), .val (.ref b5), .val (.int r17), .val (.int (1 : Int32)), .val (.int (1 : Int32))] [(.int (1 : Int32))])
      have hc22 : ¬ ((1 : Int32) = 0) := by decide
      refine own_go (fun _ k => XS.ifNo X16.here hx rfl (hb hby at_167) rfl (Jvm.Free.XT.i0_eq_f hc22) k) ?_
      show own_Go _ _ _ _ T16 (mkF m 170 #[.val (.int p_1), .val (.int p_2), .val (.int v2), .val (.int (1 : Int32)), .val (.int (0 : Int32)), .val (.ref b5), .val (.int r17), .val (.int (1 : Int32)), .val (.int (1 : Int32))] [])
      refine own_go (fun _ k => XS.iconst X16.here hx rfl (hb hby at_170) k) ?_
      show own_Go _ _ _ _ T16 (mkF m 171 #[.val (.int p_1), .val (.int p_2), .val (.int v2), .val (.int (1 : Int32)), .val (.int (0 : Int32)), .val (.ref b5), .val (.int r17), .val (.int (1 : Int32)), .val (.int (1 : Int32))] [(.int (1 : Int32))])
      refine own_go (fun _ k => XS.goto X16.here hx rfl (pc0 := 171) (pc' := 175) rfl (hb hby at_171) (by decide) (by decide) k) ?_
      show own_Go _ _ _ _ T16 (mkF m 175 #[.val (.int p_1), .val (.int p_2), .val (.int v2), .val (.int (1 : Int32)), .val (.int (0 : Int32)), .val (.ref b5), .val (.int r17), .val (.int (1 : Int32)), .val (.int (1 : Int32))] [(.int (1 : Int32))])
      obtain ⟨fs, hr, hrun, hended, hW, hsame⟩ := X16.leave (v := some (.int (1 : Int32))) (fun h => by rw [Bd.returns] at h; cases h)
      refine ⟨_, _, retOut X16 hx Bd.returns rfl (Or.inl ⟨rfl, Or.inr (Or.inl rfl), _, rfl⟩) (hb hby at_175) hr, hrun, hended, _, _, rfl, ?_, ⟨_, rfl⟩, hW, hsame.mono (by decide) (by decide)⟩
      show own_Q0 Z p_1 p_2 h0 n0 _ T16.heap _
      rw [e16]
      exact ⟨rfl, N16⟩
    · refine own_go (fun _ k => XS.ifNo X0.here hx rfl (hb hby at_55) rfl (Jvm.Free.XT.i0_eq_f hc4) k) ?_
      show own_Go _ _ _ _ s₁ (mkF m 58 #[.val (.int p_1), .val (.int p_2), .val (.int v2), .val (.int (1 : Int32)), .unset, .unset, .unset, .unset, .unset] [])
      refine own_go (fun _ k => XS.iconst X0.here hx rfl (hb hby at_58) k) ?_
      show own_Go _ _ _ _ s₁ (mkF m 59 #[.val (.int p_1), .val (.int p_2), .val (.int v2), .val (.int (1 : Int32)), .unset, .unset, .unset, .unset, .unset] [(.int (1 : Int32))])
      refine own_go (fun _ k => XS.goto X0.here hx rfl (pc0 := 59) (pc' := 63) rfl (hb hby at_59) (by decide) (by decide) k) ?_
      show own_Go _ _ _ _ s₁ (mkF m 63 #[.val (.int p_1), .val (.int p_2), .val (.int v2), .val (.int (1 : Int32)), .unset, .unset, .unset, .unset, .unset] [(.int (1 : Int32))])
      refine own_go (fun _ k => XS.istore X0.here hx rfl (hb hby at_63) rfl (l' := #[.val (.int p_1), .val (.int p_2), .val (.int v2), .val (.int (1 : Int32)), .val (.int (1 : Int32)), .unset, .unset, .unset, .unset]) rfl k) ?_
      show own_Go _ _ _ _ s₁ (mkF m 65 #[.val (.int p_1), .val (.int p_2), .val (.int v2), .val (.int (1 : Int32)), .val (.int (1 : Int32)), .unset, .unset, .unset, .unset] [])
      obtain ⟨T24, h24, X24, e24, E24, A24, D24, Y24, st24⟩ := newO X0 hx hZ hown (hw _ (List.mem_of_getElem? (i := 1) rfl)) (hw _ (List.mem_of_getElem? (i := 2) rfl)) (hw _ (List.mem_of_getElem? (i := 3) rfl)) e0 (g := (mkF m 65 #[.val (.int p_1), .val (.int p_2), .val (.int v2), .val (.int (1 : Int32)), .val (.int (1 : Int32)), .unset, .unset, .unset, .unset] [])) rfl (hb hby at_65) (by decide) (by decide)
      obtain ⟨b24, g24⟩ : ∃ z, z = h0.size := ⟨_, rfl⟩
      rw [← g24] at A24 D24 Y24 st24
      have z25 := E24.1
      have lt_b24 := A24.lt
      have F_bits_b24 : Fld Z h24 b24 "com/example/tessera/tessera/IntType" "bits" "I" (.int (0 : Int32)) := D24 (Or.inr (hw _ (List.mem_of_getElem? (i := 16) rfl))) (ty := .int) (by decide)
      have F_signed_b24 : Fld Z h24 b24 "com/example/tessera/tessera/IntType" "signed" "Z" (.int (0 : Int32)) := D24 (Or.inr (hw _ (List.mem_of_getElem? (i := 18) rfl))) (ty := .boolean) (by decide)
      refine own_go (fun _ k => st24 _ k) ?_
      show own_Go _ _ _ _ T24 (mkF m 68 #[.val (.int p_1), .val (.int p_2), .val (.int v2), .val (.int (1 : Int32)), .val (.int (1 : Int32)), .unset, .unset, .unset, .unset] [(.ref b24)])
      refine own_go (fun _ k => XS.dup X24.here hx rfl (hb hby at_68) rfl rfl k) ?_
      show own_Go _ _ _ _ T24 (mkF m 69 #[.val (.int p_1), .val (.int p_2), .val (.int v2), .val (.int (1 : Int32)), .val (.int (1 : Int32)), .unset, .unset, .unset, .unset] [(.ref b24), (.ref b24)])
      refine own_go (fun _ k => XS.iloadN X24.here hx rfl (hb hby at_69) rfl k) ?_
      show own_Go _ _ _ _ T24 (mkF m 70 #[.val (.int p_1), .val (.int p_2), .val (.int v2), .val (.int (1 : Int32)), .val (.int (1 : Int32)), .unset, .unset, .unset, .unset] [(.int (1 : Int32)), (.ref b24), (.ref b24)])
      refine own_go (fun _ k => XS.iload X24.here hx rfl (hb hby at_70) rfl k) ?_
      show own_Go _ _ _ _ T24 (mkF m 72 #[.val (.int p_1), .val (.int p_2), .val (.int v2), .val (.int (1 : Int32)), .val (.int (1 : Int32)), .unset, .unset, .unset, .unset] [(.int (1 : Int32)), (.int (1 : Int32)), (.ref b24), (.ref b24)])
      obtain ⟨_, _, ⟨T26, L26, k26, n26⟩, -, X26, ⟨Lc26, hQ26, l26, y26, z26⟩, st26⟩ := X24.specialBack hx (y := (⟨"com/example/tessera/tessera/IntType", "<init>", "(IZ)V"⟩ : MethodName)) rfl hown (mvT hZ (hw _ (List.mem_of_getElem? (i := 4) rfl))) (mvT hZ (hw _ (List.mem_of_getElem? (i := 5) rfl))) (mvT hZ (hw _ (List.mem_of_getElem? (i := 6) rfl))) (by decide) (backOf (W := 1) (own_rm1 l Z a0 hw [] b24 (1 : Int32) (1 : Int32) (0 : Int32) (0 : Int32) h24 n0 (by omega) (show (1 : Int32) = 1 ∨ (1 : Int32) = 8 ∨ (1 : Int32) = 16 ∨ (1 : Int32) = 32 ∨ (1 : Int32) = 64 by first | assumption | omega | decide) A24 F_bits_b24 F_signed_b24 (by omega)) hZ (hw _ (List.mem_of_getElem? (i := 6) rfl)) (hw _ (List.mem_of_getElem? (i := 3) rfl)) (by decide) (by decide)) (g := (mkF m 72 #[.val (.int p_1), .val (.int p_2), .val (.int v2), .val (.int (1 : Int32)), .val (.int (1 : Int32)), .unset, .unset, .unset, .unset] [(.int (1 : Int32)), (.int (1 : Int32)), (.ref b24), (.ref b24)])) rfl (by rw [hml]; rfl) (Steps.refl _) (a := b24) (argsL := [(.int (1 : Int32)), (.int (1 : Int32))]) (rest := [(.ref b24)]) (lenOf own_pd1 rfl) rfl (by show 2 * 0 + _ ≤ _; exact Nat.le_of_eq rfl) (hb hby at_72) (fun _ _ => ⟨rfl, e24, (by decide : 1 + 0 ≤ _), (by decide : 2 + 0 ≤ _)⟩)
      dsimp only [Pt.U, Pt.locs, Pt.cells, Pt.slots] at X26 l26 y26 z26 st26 hQ26
      subst l26 y26 z26
      obtain ⟨rfl, N26q, K26q, f27, f28, f29⟩ := hQ26
      have N26 := Fr.app N0 N26q
      have z30 := K26q.1
      have z31 := f27.lt
      have z32 := f28.lt
      obtain ⟨v33, hdv33⟩ : ∃ z : Int32, z = (nar .boolean (1 : Int32)) := ⟨_, rfl⟩
      rw [← hdv33] at f29
      have z34 := f29.lt
      refine own_go (fun _ k => st26.trans k) ?_
      show own_Go _ _ _ _ T26 (mkF m 75 #[.val (.int p_1), .val (.int p_2), .val (.int v2), .val (.int (1 : Int32)), .val (.int (1 : Int32)), .unset, .unset, .unset, .unset] [(.ref b24)])
      refine own_go (fun _ k => XS.astore X26.here hx rfl (hb hby at_75) rfl rfl (l' := #[.val (.int p_1), .val (.int p_2), .val (.int v2), .val (.int (1 : Int32)), .val (.int (1 : Int32)), .val (.ref b24), .unset, .unset, .unset]) rfl k) ?_
      show own_Go _ _ _ _ T26 (mkF m 77 #[.val (.int p_1), .val (.int p_2), .val (.int v2), .val (.int (1 : Int32)), .val (.int (1 : Int32)), .val (.ref b24), .unset, .unset, .unset] [])
      refine own_go (fun _ k => XS.aload X26.here hx rfl (hb hby at_77) rfl rfl k) ?_
      show own_Go _ _ _ _ T26 (mkF m 79 #[.val (.int p_1), .val (.int p_2), .val (.int v2), .val (.int (1 : Int32)), .val (.int (1 : Int32)), .val (.ref b24), .unset, .unset, .unset] [(.ref b24)])
      obtain ⟨cq35, kq35, q35a, q35b, q35c⟩ := isOf hZ rfl f27
      obtain ⟨_, _, ⟨T35, L35, k35, n35⟩, -, X35, ⟨Lc35, hQ35, l35, y35, z35⟩, st35⟩ := X26.virtualBack hx (y := (⟨"com/example/tessera/tessera/IntType", "fixedSize", "()I"⟩ : MethodName)) (z := (⟨"com/example/tessera/tessera/IntType", "fixedSize", "()I"⟩ : MethodName)) hown (mvT hZ (hw _ (List.mem_of_getElem? (i := 19) rfl))) (mvT hZ (hw _ (List.mem_of_getElem? (i := 20) rfl))) (notFace_of_selects (args := #[]) (mvT hZ (hw _ (List.mem_of_getElem? (i := 22) rfl)))) (mvT hZ (hw _ (List.mem_of_getElem? (i := 22) rfl))) (mvT hZ (hw _ (List.mem_of_getElem? (i := 21) rfl))) (by decide) (backOf (W := 0) (own_rm4 l Z a0 hw [] b24 (1 : Int32) T26.heap n0 (by omega) f28) hZ (hw _ (List.mem_of_getElem? (i := 23) rfl)) (hw _ (List.mem_of_getElem? (i := 3) rfl)) (by decide) (by decide)) q35a q35c (g := (mkF m 79 #[.val (.int p_1), .val (.int p_2), .val (.int v2), .val (.int (1 : Int32)), .val (.int (1 : Int32)), .val (.ref b24), .unset, .unset, .unset] [(.ref b24)])) rfl (by rw [hml]; rfl) (Steps.refl _) (argsL := []) (rest := []) (lenOf own_pd2 rfl) rfl (by show 2 * 0 + _ ≤ _; exact Nat.le_of_eq rfl) (hb hby at_79) (fun _ _ => ⟨rfl, rfl, (by decide : 1 + 0 ≤ _), (by decide : 2 + 0 ≤ _)⟩)
      dsimp only [Pt.U, Pt.locs, Pt.cells, Pt.slots] at X35 l35 y35 z35 st35 hQ35
      subst l35 y35 z35
      obtain ⟨r36, rfl, N35q, hr_r36, e35⟩ := hQ35
      have N35 := Fr.app N26 N35q
      refine own_go (fun _ k => st35.trans k) ?_
      show own_Go _ _ _ _ T35 (mkF m 82 #[.val (.int p_1), .val (.int p_2), .val (.int v2), .val (.int (1 : Int32)), .val (.int (1 : Int32)), .val (.ref b24), .unset, .unset, .unset] [(.int r36)])
      refine own_go (fun _ k => XS.istore X35.here hx rfl (hb hby at_82) rfl (l' := #[.val (.int p_1), .val (.int p_2), .val (.int v2), .val (.int (1 : Int32)), .val (.int (1 : Int32)), .val (.ref b24), .val (.int r36), .unset, .unset]) rfl k) ?_
      show own_Go _ _ _ _ T35 (mkF m 84 #[.val (.int p_1), .val (.int p_2), .val (.int v2), .val (.int (1 : Int32)), .val (.int (1 : Int32)), .val (.ref b24), .val (.int r36), .unset, .unset] [])
      refine own_go (fun _ k => XS.iloadN X35.here hx rfl (hb hby at_84) rfl k) ?_
      show own_Go _ _ _ _ T35 (mkF m 85 #[.val (.int p_1), .val (.int p_2), .val (.int v2), .val (.int (1 : Int32)), .val (.int (1 : Int32)), .val (.ref b24), .val (.int r36), .unset, .unset] [(.int v2)])
      refine own_go (fun _ k => XS.ifNo X35.here hx rfl (hb hby at_85) rfl (Jvm.Free.XT.i0_ne_f hc3) k) ?_
      show own_Go _ _ _ _ T35 (mkF m 88 #[.val (.int p_1), .val (.int p_2), .val (.int v2), .val (.int (1 : Int32)), .val (.int (1 : Int32)), .val (.ref b24), .val (.int r36), .unset, .unset] [])
      refine own_go (fun _ k => XS.iconst X35.here hx rfl (hb hby at_88) k) ?_
      show own_Go _ _ _ _ T35 (mkF m 89 #[.val (.int p_1), .val (.int p_2), .val (.int v2), .val (.int (1 : Int32)), .val (.int (1 : Int32)), .val (.ref b24), .val (.int r36), .unset, .unset] [(.int (1 : Int32))])
      refine own_go (fun _ k => XS.istore X35.here hx rfl (hb hby at_89) rfl (l' := #[.val (.int p_1), .val (.int p_2), .val (.int v2), .val (.int (1 : Int32)), .val (.int (1 : Int32)), .val (.ref b24), .val (.int r36), .val (.int (1 : Int32)), .unset]) rfl k) ?_
      show own_Go _ _ _ _ T35 (mkF m 91 #[.val (.int p_1), .val (.int p_2), .val (.int v2), .val (.int (1 : Int32)), .val (.int (1 : Int32)), .val (.ref b24), .val (.int r36), .val (.int (1 : Int32)), .unset] [])
      refine own_go (fun _ k => XS.goto X35.here hx rfl (pc0 := 91) (pc' := 131) rfl (hb hby at_91) (by decide) (by decide) k) ?_
      show own_Go _ _ _ _ T35 (mkF m 131 #[.val (.int p_1), .val (.int p_2), .val (.int v2), .val (.int (1 : Int32)), .val (.int (1 : Int32)), .val (.ref b24), .val (.int r36), .val (.int (1 : Int32)), .unset] [])
      refine own_go (fun _ k => XS.bipush X35.here hx rfl (hb hby at_131) k) ?_
      show own_Go _ _ _ _ T35 (mkF m 133 #[.val (.int p_1), .val (.int p_2), .val (.int v2), .val (.int (1 : Int32)), .val (.int (1 : Int32)), .val (.ref b24), .val (.int r36), .val (.int (1 : Int32)), .unset] [(.int (8 : Int32))])
      refine own_go (fun _ k => XS.iload X35.here hx rfl (hb hby at_133) rfl k) ?_
      show own_Go _ _ _ _ T35 (mkF m 135 #[.val (.int p_1), .val (.int p_2), .val (.int v2), .val (.int (1 : Int32)), .val (.int (1 : Int32)), .val (.ref b24), .val (.int r36), .val (.int (1 : Int32)), .unset] [(.int r36), (.int (8 : Int32))])
      refine own_go (fun _ k => XS.imul X35.here hx rfl (hb hby at_135) rfl k) ?_
      show own_Go _ _ _ _ T35 (mkF m 136 #[.val (.int p_1), .val (.int p_2), .val (.int v2), .val (.int (1 : Int32)), .val (.int (1 : Int32)), .val (.ref b24), .val (.int r36), .val (.int (1 : Int32)), .unset] [(.int ((8 : Int32) * r36))])
      refine own_go (fun _ k => XS.iloadN X35.here hx rfl (hb hby at_136) rfl k) ?_
      show own_Go _ _ _ _ T35 (mkF m 137 #[.val (.int p_1), .val (.int p_2), .val (.int v2), .val (.int (1 : Int32)), .val (.int (1 : Int32)), .val (.ref b24), .val (.int r36), .val (.int (1 : Int32)), .unset] [(.int (1 : Int32)), (.int ((8 : Int32) * r36))])
      have hc38 : ¬ (((8 : Int32) * r36) < (1 : Int32)) := own_t0_3 r36 hr_r36
      refine own_go (fun _ k => XS.icmpNo X35.here hx rfl (hb hby at_137) rfl (Jvm.Free.XT.ii_lt_f hc38) k) ?_
      show own_Go _ _ _ _ T35 (mkF m 140 #[.val (.int p_1), .val (.int p_2), .val (.int v2), .val (.int (1 : Int32)), .val (.int (1 : Int32)), .val (.ref b24), .val (.int r36), .val (.int (1 : Int32)), .unset] [])
      refine own_go (fun _ k => XS.bipush X35.here hx rfl (hb hby at_140) k) ?_
      show own_Go _ _ _ _ T35 (mkF m 142 #[.val (.int p_1), .val (.int p_2), .val (.int v2), .val (.int (1 : Int32)), .val (.int (1 : Int32)), .val (.ref b24), .val (.int r36), .val (.int (1 : Int32)), .unset] [(.int (8 : Int32))])
      refine own_go (fun _ k => XS.iload X35.here hx rfl (hb hby at_142) rfl k) ?_
      show own_Go _ _ _ _ T35 (mkF m 144 #[.val (.int p_1), .val (.int p_2), .val (.int v2), .val (.int (1 : Int32)), .val (.int (1 : Int32)), .val (.ref b24), .val (.int r36), .val (.int (1 : Int32)), .unset] [(.int r36), (.int (8 : Int32))])
      refine own_go (fun _ k => XS.iconst X35.here hx rfl (hb hby at_144) k) ?_
      show own_Go _ _ _ _ T35 (mkF m 145 #[.val (.int p_1), .val (.int p_2), .val (.int v2), .val (.int (1 : Int32)), .val (.int (1 : Int32)), .val (.ref b24), .val (.int r36), .val (.int (1 : Int32)), .unset] [(.int (1 : Int32)), (.int r36), (.int (8 : Int32))])
      refine own_go (fun _ k => XS.isub X35.here hx rfl (hb hby at_145) rfl k) ?_
      show own_Go _ _ _ _ T35 (mkF m 146 #[.val (.int p_1), .val (.int p_2), .val (.int v2), .val (.int (1 : Int32)), .val (.int (1 : Int32)), .val (.ref b24), .val (.int r36), .val (.int (1 : Int32)), .unset] [(.int (r36 - (1 : Int32))), (.int (8 : Int32))])
      refine own_go (fun _ k => XS.imul X35.here hx rfl (hb hby at_146) rfl k) ?_
      show own_Go _ _ _ _ T35 (mkF m 147 #[.val (.int p_1), .val (.int p_2), .val (.int v2), .val (.int (1 : Int32)), .val (.int (1 : Int32)), .val (.ref b24), .val (.int r36), .val (.int (1 : Int32)), .unset] [(.int ((8 : Int32) * (r36 - (1 : Int32))))])
      refine own_go (fun _ k => XS.iloadN X35.here hx rfl (hb hby at_147) rfl k) ?_
      show own_Go _ _ _ _ T35 (mkF m 148 #[.val (.int p_1), .val (.int p_2), .val (.int v2), .val (.int (1 : Int32)), .val (.int (1 : Int32)), .val (.ref b24), .val (.int r36), .val (.int (1 : Int32)), .unset] [(.int (1 : Int32)), (.int ((8 : Int32) * (r36 - (1 : Int32))))])
      have hc39 : ((8 : Int32) * (r36 - (1 : Int32))) < (1 : Int32) := own_t0_4 r36 hr_r36 hc38
      refine own_go (fun _ k => XS.icmpNo X35.here hx rfl (hb hby at_148) rfl (Jvm.Free.XT.ii_ge_f hc39) k) ?_
      show own_Go _ _ _ _ T35 (mkF m 151 #[.val (.int p_1), .val (.int p_2), .val (.int v2), .val (.int (1 : Int32)), .val (.int (1 : Int32)), .val (.ref b24), .val (.int r36), .val (.int (1 : Int32)), .unset] [])
      refine own_go (fun _ k => XS.iconst X35.here hx rfl (hb hby at_151) k) ?_
      show own_Go _ _ _ _ T35 (mkF m 152 #[.val (.int p_1), .val (.int p_2), .val (.int v2), .val (.int (1 : Int32)), .val (.int (1 : Int32)), .val (.ref b24), .val (.int r36), .val (.int (1 : Int32)), .unset] [(.int (1 : Int32))])
      refine own_go (fun _ k => XS.goto X35.here hx rfl (pc0 := 152) (pc' := 156) rfl (hb hby at_152) (by decide) (by decide) k) ?_
      show own_Go _ _ _ _ T35 (mkF m 156 #[.val (.int p_1), .val (.int p_2), .val (.int v2), .val (.int (1 : Int32)), .val (.int (1 : Int32)), .val (.ref b24), .val (.int r36), .val (.int (1 : Int32)), .unset] [(.int (1 : Int32))])
      refine own_go (fun _ k => XS.istore X35.here hx rfl (hb hby at_156) rfl (l' := #[.val (.int p_1), .val (.int p_2), .val (.int v2), .val (.int (1 : Int32)), .val (.int (1 : Int32)), .val (.ref b24), .val (.int r36), .val (.int (1 : Int32)), .val (.int (1 : Int32))]) rfl k) ?_
      show own_Go _ _ _ _ T35 (mkF m 158 #[.val (.int p_1), .val (.int p_2), .val (.int v2), .val (.int (1 : Int32)), .val (.int (1 : Int32)), .val (.ref b24), .val (.int r36), .val (.int (1 : Int32)), .val (.int (1 : Int32))] [])
      refine own_go (fun _ k => XS.iload X35.here hx rfl (hb hby at_158) rfl k) ?_
      show own_Go _ _ _ _ T35 (mkF m 160 #[.val (.int p_1), .val (.int p_2), .val (.int v2), .val (.int (1 : Int32)), .val (.int (1 : Int32)), .val (.ref b24), .val (.int r36), .val (.int (1 : Int32)), .val (.int (1 : Int32))] [(.int r36)])
      refine own_go (fun _ k => XS.iload X35.here hx rfl (hb hby at_160) rfl k) ?_
      show own_Go _ _ _ _ T35 (mkF m 162 #[.val (.int p_1), .val (.int p_2), .val (.int v2), .val (.int (1 : Int32)), .val (.int (1 : Int32)), .val (.ref b24), .val (.int r36), .val (.int (1 : Int32)), .val (.int (1 : Int32))] [(.int (1 : Int32)), (.int r36)])
      have hc40 : r36 = (1 : Int32) := own_t0_5 r36 hr_r36 hc38 hc39
      refine own_go (fun _ k => XS.icmpNo X35.here hx rfl (hb hby at_162) rfl (Jvm.Free.XT.ii_ne_f hc40) k) ?_
      show own_Go _ _ _ _ T35 (mkF m 165 #[.val (.int p_1), .val (.int p_2), .val (.int v2), .val (.int (1 : Int32)), .val (.int (1 : Int32)), .val (.ref b24), .val (.int r36), .val (.int (1 : Int32)), .val (.int (1 : Int32))] [])
      refine own_go (fun _ k => XS.iload X35.here hx rfl (hb hby at_165) rfl k) ?_
      show own_Go _ _ _ _ T35 (mkF m 167 #[.val (.int p_1), .val (.int p_2), .val (.int v2), .val (.int (1 : Int32)), .val (.int (1 : Int32)), .val (.ref b24), .val (.int r36), .val (.int (1 : Int32)), .val (.int (1 : Int32))] [(.int (1 : Int32))])
      have hc41 : ¬ ((1 : Int32) = 0) := by decide
      refine own_go (fun _ k => XS.ifNo X35.here hx rfl (hb hby at_167) rfl (Jvm.Free.XT.i0_eq_f hc41) k) ?_
      show own_Go _ _ _ _ T35 (mkF m 170 #[.val (.int p_1), .val (.int p_2), .val (.int v2), .val (.int (1 : Int32)), .val (.int (1 : Int32)), .val (.ref b24), .val (.int r36), .val (.int (1 : Int32)), .val (.int (1 : Int32))] [])
      refine own_go (fun _ k => XS.iconst X35.here hx rfl (hb hby at_170) k) ?_
      show own_Go _ _ _ _ T35 (mkF m 171 #[.val (.int p_1), .val (.int p_2), .val (.int v2), .val (.int (1 : Int32)), .val (.int (1 : Int32)), .val (.ref b24), .val (.int r36), .val (.int (1 : Int32)), .val (.int (1 : Int32))] [(.int (1 : Int32))])
      refine own_go (fun _ k => XS.goto X35.here hx rfl (pc0 := 171) (pc' := 175) rfl (hb hby at_171) (by decide) (by decide) k) ?_
      show own_Go _ _ _ _ T35 (mkF m 175 #[.val (.int p_1), .val (.int p_2), .val (.int v2), .val (.int (1 : Int32)), .val (.int (1 : Int32)), .val (.ref b24), .val (.int r36), .val (.int (1 : Int32)), .val (.int (1 : Int32))] [(.int (1 : Int32))])
      obtain ⟨fs, hr, hrun, hended, hW, hsame⟩ := X35.leave (v := some (.int (1 : Int32))) (fun h => by rw [Bd.returns] at h; cases h)
      refine ⟨_, _, retOut X35 hx Bd.returns rfl (Or.inl ⟨rfl, Or.inr (Or.inl rfl), _, rfl⟩) (hb hby at_175) hr, hrun, hended, _, _, rfl, ?_, ⟨_, rfl⟩, hW, hsame.mono (by decide) (by decide)⟩
      show own_Q0 Z p_1 p_2 h0 n0 _ T35.heap _
      rw [e35]
      exact ⟨rfl, N35⟩
  · refine own_go (fun _ k => XS.ifYes X0.here hx rfl (pc0 := 8) (pc' := 16) rfl (hb hby at_8) rfl (Jvm.Free.XT.i0_ne_t hc3) (by decide) (by decide) k) ?_
    show own_Go _ _ _ _ s₁ (mkF m 16 #[.val (.int p_1), .val (.int p_2), .val (.int v2), .unset, .unset, .unset, .unset, .unset, .unset] [])
    refine own_go (fun _ k => XS.iloadN X0.here hx rfl (hb hby at_16) rfl k) ?_
    show own_Go _ _ _ _ s₁ (mkF m 17 #[.val (.int p_1), .val (.int p_2), .val (.int v2), .unset, .unset, .unset, .unset, .unset, .unset] [(.int v2)])
    refine own_go (fun _ k => XS.iconst X0.here hx rfl (hb hby at_17) k) ?_
    show own_Go _ _ _ _ s₁ (mkF m 18 #[.val (.int p_1), .val (.int p_2), .val (.int v2), .unset, .unset, .unset, .unset, .unset, .unset] [(.int (1 : Int32)), (.int v2)])
    by_cases hc43 : v2 = (1 : Int32)
    · refine own_go (fun _ k => XS.icmpNo X0.here hx rfl (hb hby at_18) rfl (Jvm.Free.XT.ii_ne_f hc43) k) ?_
      show own_Go _ _ _ _ s₁ (mkF m 21 #[.val (.int p_1), .val (.int p_2), .val (.int v2), .unset, .unset, .unset, .unset, .unset, .unset] [])
      refine own_go (fun _ k => XS.bipush X0.here hx rfl (hb hby at_21) k) ?_
      show own_Go _ _ _ _ s₁ (mkF m 23 #[.val (.int p_1), .val (.int p_2), .val (.int v2), .unset, .unset, .unset, .unset, .unset, .unset] [(.int (8 : Int32))])
      refine own_go (fun _ k => XS.istoreN X0.here hx rfl (hb hby at_23) rfl (l' := #[.val (.int p_1), .val (.int p_2), .val (.int v2), .val (.int (8 : Int32)), .unset, .unset, .unset, .unset, .unset]) rfl k) ?_
      show own_Go _ _ _ _ s₁ (mkF m 24 #[.val (.int p_1), .val (.int p_2), .val (.int v2), .val (.int (8 : Int32)), .unset, .unset, .unset, .unset, .unset] [])
      refine own_go (fun _ k => XS.goto X0.here hx rfl (pc0 := 24) (pc' := 52) rfl (hb hby at_24) (by decide) (by decide) k) ?_
      show own_Go _ _ _ _ s₁ (mkF m 52 #[.val (.int p_1), .val (.int p_2), .val (.int v2), .val (.int (8 : Int32)), .unset, .unset, .unset, .unset, .unset] [])
      refine own_go (fun _ k => XS.iloadN X0.here hx rfl (hb hby at_52) rfl k) ?_
      show own_Go _ _ _ _ s₁ (mkF m 53 #[.val (.int p_1), .val (.int p_2), .val (.int v2), .val (.int (8 : Int32)), .unset, .unset, .unset, .unset, .unset] [(.int p_2)])
      refine own_go (fun _ k => XS.iconst X0.here hx rfl (hb hby at_53) k) ?_
      show own_Go _ _ _ _ s₁ (mkF m 54 #[.val (.int p_1), .val (.int p_2), .val (.int v2), .val (.int (8 : Int32)), .unset, .unset, .unset, .unset, .unset] [(.int (1 : Int32)), (.int p_2)])
      refine own_go (fun _ k => XS.iand X0.here hx rfl (hb hby at_54) rfl k) ?_
      show own_Go _ _ _ _ s₁ (mkF m 55 #[.val (.int p_1), .val (.int p_2), .val (.int v2), .val (.int (8 : Int32)), .unset, .unset, .unset, .unset, .unset] [(.int (p_2 &&& (1 : Int32)))])
      by_cases hc44 : (p_2 &&& (1 : Int32)) = 0
      · refine own_go (fun _ k => XS.ifYes X0.here hx rfl (pc0 := 55) (pc' := 62) rfl (hb hby at_55) rfl (Jvm.Free.XT.i0_eq_t hc44) (by decide) (by decide) k) ?_
        show own_Go _ _ _ _ s₁ (mkF m 62 #[.val (.int p_1), .val (.int p_2), .val (.int v2), .val (.int (8 : Int32)), .unset, .unset, .unset, .unset, .unset] [])
        refine own_go (fun _ k => XS.iconst X0.here hx rfl (hb hby at_62) k) ?_
        show own_Go _ _ _ _ s₁ (mkF m 63 #[.val (.int p_1), .val (.int p_2), .val (.int v2), .val (.int (8 : Int32)), .unset, .unset, .unset, .unset, .unset] [(.int (0 : Int32))])
        refine own_go (fun _ k => XS.istore X0.here hx rfl (hb hby at_63) rfl (l' := #[.val (.int p_1), .val (.int p_2), .val (.int v2), .val (.int (8 : Int32)), .val (.int (0 : Int32)), .unset, .unset, .unset, .unset]) rfl k) ?_
        show own_Go _ _ _ _ s₁ (mkF m 65 #[.val (.int p_1), .val (.int p_2), .val (.int v2), .val (.int (8 : Int32)), .val (.int (0 : Int32)), .unset, .unset, .unset, .unset] [])
        obtain ⟨T45, h45, X45, e45, E45, A45, D45, Y45, st45⟩ := newO X0 hx hZ hown (hw _ (List.mem_of_getElem? (i := 1) rfl)) (hw _ (List.mem_of_getElem? (i := 2) rfl)) (hw _ (List.mem_of_getElem? (i := 3) rfl)) e0 (g := (mkF m 65 #[.val (.int p_1), .val (.int p_2), .val (.int v2), .val (.int (8 : Int32)), .val (.int (0 : Int32)), .unset, .unset, .unset, .unset] [])) rfl (hb hby at_65) (by decide) (by decide)
        obtain ⟨b45, g45⟩ : ∃ z, z = h0.size := ⟨_, rfl⟩
        rw [← g45] at A45 D45 Y45 st45
        have z46 := E45.1
        have lt_b45 := A45.lt
        have F_bits_b45 : Fld Z h45 b45 "com/example/tessera/tessera/IntType" "bits" "I" (.int (0 : Int32)) := D45 (Or.inr (hw _ (List.mem_of_getElem? (i := 16) rfl))) (ty := .int) (by decide)
        have F_signed_b45 : Fld Z h45 b45 "com/example/tessera/tessera/IntType" "signed" "Z" (.int (0 : Int32)) := D45 (Or.inr (hw _ (List.mem_of_getElem? (i := 18) rfl))) (ty := .boolean) (by decide)
        refine own_go (fun _ k => st45 _ k) ?_
        show own_Go _ _ _ _ T45 (mkF m 68 #[.val (.int p_1), .val (.int p_2), .val (.int v2), .val (.int (8 : Int32)), .val (.int (0 : Int32)), .unset, .unset, .unset, .unset] [(.ref b45)])
        refine own_go (fun _ k => XS.dup X45.here hx rfl (hb hby at_68) rfl rfl k) ?_
        show own_Go _ _ _ _ T45 (mkF m 69 #[.val (.int p_1), .val (.int p_2), .val (.int v2), .val (.int (8 : Int32)), .val (.int (0 : Int32)), .unset, .unset, .unset, .unset] [(.ref b45), (.ref b45)])
        refine own_go (fun _ k => XS.iloadN X45.here hx rfl (hb hby at_69) rfl k) ?_
        show own_Go _ _ _ _ T45 (mkF m 70 #[.val (.int p_1), .val (.int p_2), .val (.int v2), .val (.int (8 : Int32)), .val (.int (0 : Int32)), .unset, .unset, .unset, .unset] [(.int (8 : Int32)), (.ref b45), (.ref b45)])
        refine own_go (fun _ k => XS.iload X45.here hx rfl (hb hby at_70) rfl k) ?_
        show own_Go _ _ _ _ T45 (mkF m 72 #[.val (.int p_1), .val (.int p_2), .val (.int v2), .val (.int (8 : Int32)), .val (.int (0 : Int32)), .unset, .unset, .unset, .unset] [(.int (0 : Int32)), (.int (8 : Int32)), (.ref b45), (.ref b45)])
        obtain ⟨_, _, ⟨T47, L47, k47, n47⟩, -, X47, ⟨Lc47, hQ47, l47, y47, z47⟩, st47⟩ := X45.specialBack hx (y := (⟨"com/example/tessera/tessera/IntType", "<init>", "(IZ)V"⟩ : MethodName)) rfl hown (mvT hZ (hw _ (List.mem_of_getElem? (i := 4) rfl))) (mvT hZ (hw _ (List.mem_of_getElem? (i := 5) rfl))) (mvT hZ (hw _ (List.mem_of_getElem? (i := 6) rfl))) (by decide) (backOf (W := 1) (own_rm1 l Z a0 hw [] b45 (8 : Int32) (0 : Int32) (0 : Int32) (0 : Int32) h45 n0 (by omega) (show (8 : Int32) = 1 ∨ (8 : Int32) = 8 ∨ (8 : Int32) = 16 ∨ (8 : Int32) = 32 ∨ (8 : Int32) = 64 by first | assumption | omega | decide) A45 F_bits_b45 F_signed_b45 (by omega)) hZ (hw _ (List.mem_of_getElem? (i := 6) rfl)) (hw _ (List.mem_of_getElem? (i := 3) rfl)) (by decide) (by decide)) (g := (mkF m 72 #[.val (.int p_1), .val (.int p_2), .val (.int v2), .val (.int (8 : Int32)), .val (.int (0 : Int32)), .unset, .unset, .unset, .unset] [(.int (0 : Int32)), (.int (8 : Int32)), (.ref b45), (.ref b45)])) rfl (by rw [hml]; rfl) (Steps.refl _) (a := b45) (argsL := [(.int (8 : Int32)), (.int (0 : Int32))]) (rest := [(.ref b45)]) (lenOf own_pd1 rfl) rfl (by show 2 * 0 + _ ≤ _; exact Nat.le_of_eq rfl) (hb hby at_72) (fun _ _ => ⟨rfl, e45, (by decide : 1 + 0 ≤ _), (by decide : 2 + 0 ≤ _)⟩)
        dsimp only [Pt.U, Pt.locs, Pt.cells, Pt.slots] at X47 l47 y47 z47 st47 hQ47
        subst l47 y47 z47
        obtain ⟨rfl, N47q, K47q, f48, f49, f50⟩ := hQ47
        have N47 := Fr.app N0 N47q
        have z51 := K47q.1
        have z52 := f48.lt
        have z53 := f49.lt
        obtain ⟨v54, hdv54⟩ : ∃ z : Int32, z = (nar .boolean (0 : Int32)) := ⟨_, rfl⟩
        rw [← hdv54] at f50
        have z55 := f50.lt
        refine own_go (fun _ k => st47.trans k) ?_
        show own_Go _ _ _ _ T47 (mkF m 75 #[.val (.int p_1), .val (.int p_2), .val (.int v2), .val (.int (8 : Int32)), .val (.int (0 : Int32)), .unset, .unset, .unset, .unset] [(.ref b45)])
        refine own_go (fun _ k => XS.astore X47.here hx rfl (hb hby at_75) rfl rfl (l' := #[.val (.int p_1), .val (.int p_2), .val (.int v2), .val (.int (8 : Int32)), .val (.int (0 : Int32)), .val (.ref b45), .unset, .unset, .unset]) rfl k) ?_
        show own_Go _ _ _ _ T47 (mkF m 77 #[.val (.int p_1), .val (.int p_2), .val (.int v2), .val (.int (8 : Int32)), .val (.int (0 : Int32)), .val (.ref b45), .unset, .unset, .unset] [])
        refine own_go (fun _ k => XS.aload X47.here hx rfl (hb hby at_77) rfl rfl k) ?_
        show own_Go _ _ _ _ T47 (mkF m 79 #[.val (.int p_1), .val (.int p_2), .val (.int v2), .val (.int (8 : Int32)), .val (.int (0 : Int32)), .val (.ref b45), .unset, .unset, .unset] [(.ref b45)])
        obtain ⟨cq56, kq56, q56a, q56b, q56c⟩ := isOf hZ rfl f48
        obtain ⟨_, _, ⟨T56, L56, k56, n56⟩, -, X56, ⟨Lc56, hQ56, l56, y56, z56⟩, st56⟩ := X47.virtualBack hx (y := (⟨"com/example/tessera/tessera/IntType", "fixedSize", "()I"⟩ : MethodName)) (z := (⟨"com/example/tessera/tessera/IntType", "fixedSize", "()I"⟩ : MethodName)) hown (mvT hZ (hw _ (List.mem_of_getElem? (i := 19) rfl))) (mvT hZ (hw _ (List.mem_of_getElem? (i := 20) rfl))) (notFace_of_selects (args := #[]) (mvT hZ (hw _ (List.mem_of_getElem? (i := 22) rfl)))) (mvT hZ (hw _ (List.mem_of_getElem? (i := 22) rfl))) (mvT hZ (hw _ (List.mem_of_getElem? (i := 21) rfl))) (by decide) (backOf (W := 0) (own_rm4 l Z a0 hw [] b45 (8 : Int32) T47.heap n0 (by omega) f49) hZ (hw _ (List.mem_of_getElem? (i := 23) rfl)) (hw _ (List.mem_of_getElem? (i := 3) rfl)) (by decide) (by decide)) q56a q56c (g := (mkF m 79 #[.val (.int p_1), .val (.int p_2), .val (.int v2), .val (.int (8 : Int32)), .val (.int (0 : Int32)), .val (.ref b45), .unset, .unset, .unset] [(.ref b45)])) rfl (by rw [hml]; rfl) (Steps.refl _) (argsL := []) (rest := []) (lenOf own_pd2 rfl) rfl (by show 2 * 0 + _ ≤ _; exact Nat.le_of_eq rfl) (hb hby at_79) (fun _ _ => ⟨rfl, rfl, (by decide : 1 + 0 ≤ _), (by decide : 2 + 0 ≤ _)⟩)
        dsimp only [Pt.U, Pt.locs, Pt.cells, Pt.slots] at X56 l56 y56 z56 st56 hQ56
        subst l56 y56 z56
        obtain ⟨r57, rfl, N56q, hr_r57, e56⟩ := hQ56
        have N56 := Fr.app N47 N56q
        refine own_go (fun _ k => st56.trans k) ?_
        show own_Go _ _ _ _ T56 (mkF m 82 #[.val (.int p_1), .val (.int p_2), .val (.int v2), .val (.int (8 : Int32)), .val (.int (0 : Int32)), .val (.ref b45), .unset, .unset, .unset] [(.int r57)])
        refine own_go (fun _ k => XS.istore X56.here hx rfl (hb hby at_82) rfl (l' := #[.val (.int p_1), .val (.int p_2), .val (.int v2), .val (.int (8 : Int32)), .val (.int (0 : Int32)), .val (.ref b45), .val (.int r57), .unset, .unset]) rfl k) ?_
        show own_Go _ _ _ _ T56 (mkF m 84 #[.val (.int p_1), .val (.int p_2), .val (.int v2), .val (.int (8 : Int32)), .val (.int (0 : Int32)), .val (.ref b45), .val (.int r57), .unset, .unset] [])
        refine own_go (fun _ k => XS.iloadN X56.here hx rfl (hb hby at_84) rfl k) ?_
        show own_Go _ _ _ _ T56 (mkF m 85 #[.val (.int p_1), .val (.int p_2), .val (.int v2), .val (.int (8 : Int32)), .val (.int (0 : Int32)), .val (.ref b45), .val (.int r57), .unset, .unset] [(.int v2)])
        refine own_go (fun _ k => XS.ifYes X56.here hx rfl (pc0 := 85) (pc' := 94) rfl (hb hby at_85) rfl (Jvm.Free.XT.i0_ne_t hc3) (by decide) (by decide) k) ?_
        show own_Go _ _ _ _ T56 (mkF m 94 #[.val (.int p_1), .val (.int p_2), .val (.int v2), .val (.int (8 : Int32)), .val (.int (0 : Int32)), .val (.ref b45), .val (.int r57), .unset, .unset] [])
        refine own_go (fun _ k => XS.iloadN X56.here hx rfl (hb hby at_94) rfl k) ?_
        show own_Go _ _ _ _ T56 (mkF m 95 #[.val (.int p_1), .val (.int p_2), .val (.int v2), .val (.int (8 : Int32)), .val (.int (0 : Int32)), .val (.ref b45), .val (.int r57), .unset, .unset] [(.int v2)])
        refine own_go (fun _ k => XS.iconst X56.here hx rfl (hb hby at_95) k) ?_
        show own_Go _ _ _ _ T56 (mkF m 96 #[.val (.int p_1), .val (.int p_2), .val (.int v2), .val (.int (8 : Int32)), .val (.int (0 : Int32)), .val (.ref b45), .val (.int r57), .unset, .unset] [(.int (1 : Int32)), (.int v2)])
        refine own_go (fun _ k => XS.icmpNo X56.here hx rfl (hb hby at_96) rfl (Jvm.Free.XT.ii_ne_f hc43) k) ?_
        show own_Go _ _ _ _ T56 (mkF m 99 #[.val (.int p_1), .val (.int p_2), .val (.int v2), .val (.int (8 : Int32)), .val (.int (0 : Int32)), .val (.ref b45), .val (.int r57), .unset, .unset] [])
        refine own_go (fun _ k => XS.iconst X56.here hx rfl (hb hby at_99) k) ?_
        show own_Go _ _ _ _ T56 (mkF m 100 #[.val (.int p_1), .val (.int p_2), .val (.int v2), .val (.int (8 : Int32)), .val (.int (0 : Int32)), .val (.ref b45), .val (.int r57), .unset, .unset] [(.int (1 : Int32))])
        refine own_go (fun _ k => XS.istore X56.here hx rfl (hb hby at_100) rfl (l' := #[.val (.int p_1), .val (.int p_2), .val (.int v2), .val (.int (8 : Int32)), .val (.int (0 : Int32)), .val (.ref b45), .val (.int r57), .val (.int (1 : Int32)), .unset]) rfl k) ?_
        show own_Go _ _ _ _ T56 (mkF m 102 #[.val (.int p_1), .val (.int p_2), .val (.int v2), .val (.int (8 : Int32)), .val (.int (0 : Int32)), .val (.ref b45), .val (.int r57), .val (.int (1 : Int32)), .unset] [])
        refine own_go (fun _ k => XS.goto X56.here hx rfl (pc0 := 102) (pc' := 131) rfl (hb hby at_102) (by decide) (by decide) k) ?_
        show own_Go _ _ _ _ T56 (mkF m 131 #[.val (.int p_1), .val (.int p_2), .val (.int v2), .val (.int (8 : Int32)), .val (.int (0 : Int32)), .val (.ref b45), .val (.int r57), .val (.int (1 : Int32)), .unset] [])
        refine own_go (fun _ k => XS.bipush X56.here hx rfl (hb hby at_131) k) ?_
        show own_Go _ _ _ _ T56 (mkF m 133 #[.val (.int p_1), .val (.int p_2), .val (.int v2), .val (.int (8 : Int32)), .val (.int (0 : Int32)), .val (.ref b45), .val (.int r57), .val (.int (1 : Int32)), .unset] [(.int (8 : Int32))])
        refine own_go (fun _ k => XS.iload X56.here hx rfl (hb hby at_133) rfl k) ?_
        show own_Go _ _ _ _ T56 (mkF m 135 #[.val (.int p_1), .val (.int p_2), .val (.int v2), .val (.int (8 : Int32)), .val (.int (0 : Int32)), .val (.ref b45), .val (.int r57), .val (.int (1 : Int32)), .unset] [(.int r57), (.int (8 : Int32))])
        refine own_go (fun _ k => XS.imul X56.here hx rfl (hb hby at_135) rfl k) ?_
        show own_Go _ _ _ _ T56 (mkF m 136 #[.val (.int p_1), .val (.int p_2), .val (.int v2), .val (.int (8 : Int32)), .val (.int (0 : Int32)), .val (.ref b45), .val (.int r57), .val (.int (1 : Int32)), .unset] [(.int ((8 : Int32) * r57))])
        refine own_go (fun _ k => XS.iloadN X56.here hx rfl (hb hby at_136) rfl k) ?_
        show own_Go _ _ _ _ T56 (mkF m 137 #[.val (.int p_1), .val (.int p_2), .val (.int v2), .val (.int (8 : Int32)), .val (.int (0 : Int32)), .val (.ref b45), .val (.int r57), .val (.int (1 : Int32)), .unset] [(.int (8 : Int32)), (.int ((8 : Int32) * r57))])
        have hc60 : ¬ (((8 : Int32) * r57) < (8 : Int32)) := own_t0_6 r57 hr_r57
        refine own_go (fun _ k => XS.icmpNo X56.here hx rfl (hb hby at_137) rfl (Jvm.Free.XT.ii_lt_f hc60) k) ?_
        show own_Go _ _ _ _ T56 (mkF m 140 #[.val (.int p_1), .val (.int p_2), .val (.int v2), .val (.int (8 : Int32)), .val (.int (0 : Int32)), .val (.ref b45), .val (.int r57), .val (.int (1 : Int32)), .unset] [])
        refine own_go (fun _ k => XS.bipush X56.here hx rfl (hb hby at_140) k) ?_
        show own_Go _ _ _ _ T56 (mkF m 142 #[.val (.int p_1), .val (.int p_2), .val (.int v2), .val (.int (8 : Int32)), .val (.int (0 : Int32)), .val (.ref b45), .val (.int r57), .val (.int (1 : Int32)), .unset] [(.int (8 : Int32))])
        refine own_go (fun _ k => XS.iload X56.here hx rfl (hb hby at_142) rfl k) ?_
        show own_Go _ _ _ _ T56 (mkF m 144 #[.val (.int p_1), .val (.int p_2), .val (.int v2), .val (.int (8 : Int32)), .val (.int (0 : Int32)), .val (.ref b45), .val (.int r57), .val (.int (1 : Int32)), .unset] [(.int r57), (.int (8 : Int32))])
        refine own_go (fun _ k => XS.iconst X56.here hx rfl (hb hby at_144) k) ?_
        show own_Go _ _ _ _ T56 (mkF m 145 #[.val (.int p_1), .val (.int p_2), .val (.int v2), .val (.int (8 : Int32)), .val (.int (0 : Int32)), .val (.ref b45), .val (.int r57), .val (.int (1 : Int32)), .unset] [(.int (1 : Int32)), (.int r57), (.int (8 : Int32))])
        refine own_go (fun _ k => XS.isub X56.here hx rfl (hb hby at_145) rfl k) ?_
        show own_Go _ _ _ _ T56 (mkF m 146 #[.val (.int p_1), .val (.int p_2), .val (.int v2), .val (.int (8 : Int32)), .val (.int (0 : Int32)), .val (.ref b45), .val (.int r57), .val (.int (1 : Int32)), .unset] [(.int (r57 - (1 : Int32))), (.int (8 : Int32))])
        refine own_go (fun _ k => XS.imul X56.here hx rfl (hb hby at_146) rfl k) ?_
        show own_Go _ _ _ _ T56 (mkF m 147 #[.val (.int p_1), .val (.int p_2), .val (.int v2), .val (.int (8 : Int32)), .val (.int (0 : Int32)), .val (.ref b45), .val (.int r57), .val (.int (1 : Int32)), .unset] [(.int ((8 : Int32) * (r57 - (1 : Int32))))])
        refine own_go (fun _ k => XS.iloadN X56.here hx rfl (hb hby at_147) rfl k) ?_
        show own_Go _ _ _ _ T56 (mkF m 148 #[.val (.int p_1), .val (.int p_2), .val (.int v2), .val (.int (8 : Int32)), .val (.int (0 : Int32)), .val (.ref b45), .val (.int r57), .val (.int (1 : Int32)), .unset] [(.int (8 : Int32)), (.int ((8 : Int32) * (r57 - (1 : Int32))))])
        have hc61 : ((8 : Int32) * (r57 - (1 : Int32))) < (8 : Int32) := own_t0_7 r57 hr_r57 hc60
        refine own_go (fun _ k => XS.icmpNo X56.here hx rfl (hb hby at_148) rfl (Jvm.Free.XT.ii_ge_f hc61) k) ?_
        show own_Go _ _ _ _ T56 (mkF m 151 #[.val (.int p_1), .val (.int p_2), .val (.int v2), .val (.int (8 : Int32)), .val (.int (0 : Int32)), .val (.ref b45), .val (.int r57), .val (.int (1 : Int32)), .unset] [])
        refine own_go (fun _ k => XS.iconst X56.here hx rfl (hb hby at_151) k) ?_
        show own_Go _ _ _ _ T56 (mkF m 152 #[.val (.int p_1), .val (.int p_2), .val (.int v2), .val (.int (8 : Int32)), .val (.int (0 : Int32)), .val (.ref b45), .val (.int r57), .val (.int (1 : Int32)), .unset] [(.int (1 : Int32))])
        refine own_go (fun _ k => XS.goto X56.here hx rfl (pc0 := 152) (pc' := 156) rfl (hb hby at_152) (by decide) (by decide) k) ?_
        show own_Go _ _ _ _ T56 (mkF m 156 #[.val (.int p_1), .val (.int p_2), .val (.int v2), .val (.int (8 : Int32)), .val (.int (0 : Int32)), .val (.ref b45), .val (.int r57), .val (.int (1 : Int32)), .unset] [(.int (1 : Int32))])
        refine own_go (fun _ k => XS.istore X56.here hx rfl (hb hby at_156) rfl (l' := #[.val (.int p_1), .val (.int p_2), .val (.int v2), .val (.int (8 : Int32)), .val (.int (0 : Int32)), .val (.ref b45), .val (.int r57), .val (.int (1 : Int32)), .val (.int (1 : Int32))]) rfl k) ?_
        show own_Go _ _ _ _ T56 (mkF m 158 #[.val (.int p_1), .val (.int p_2), .val (.int v2), .val (.int (8 : Int32)), .val (.int (0 : Int32)), .val (.ref b45), .val (.int r57), .val (.int (1 : Int32)), .val (.int (1 : Int32))] [])
        refine own_go (fun _ k => XS.iload X56.here hx rfl (hb hby at_158) rfl k) ?_
        show own_Go _ _ _ _ T56 (mkF m 160 #[.val (.int p_1), .val (.int p_2), .val (.int v2), .val (.int (8 : Int32)), .val (.int (0 : Int32)), .val (.ref b45), .val (.int r57), .val (.int (1 : Int32)), .val (.int (1 : Int32))] [(.int r57)])
        refine own_go (fun _ k => XS.iload X56.here hx rfl (hb hby at_160) rfl k) ?_
        show own_Go _ _ _ _ T56 (mkF m 162 #[.val (.int p_1), .val (.int p_2), .val (.int v2), .val (.int (8 : Int32)), .val (.int (0 : Int32)), .val (.ref b45), .val (.int r57), .val (.int (1 : Int32)), .val (.int (1 : Int32))] [(.int (1 : Int32)), (.int r57)])
        have hc62 : r57 = (1 : Int32) := own_t0_8 r57 hr_r57 hc60 hc61
        refine own_go (fun _ k => XS.icmpNo X56.here hx rfl (hb hby at_162) rfl (Jvm.Free.XT.ii_ne_f hc62) k) ?_
        show own_Go _ _ _ _ T56 (mkF m 165 #[.val (.int p_1), .val (.int p_2), .val (.int v2), .val (.int (8 : Int32)), .val (.int (0 : Int32)), .val (.ref b45), .val (.int r57), .val (.int (1 : Int32)), .val (.int (1 : Int32))] [])
        refine own_go (fun _ k => XS.iload X56.here hx rfl (hb hby at_165) rfl k) ?_
        show own_Go _ _ _ _ T56 (mkF m 167 #[.val (.int p_1), .val (.int p_2), .val (.int v2), .val (.int (8 : Int32)), .val (.int (0 : Int32)), .val (.ref b45), .val (.int r57), .val (.int (1 : Int32)), .val (.int (1 : Int32))] [(.int (1 : Int32))])
        have hc63 : ¬ ((1 : Int32) = 0) := by decide
        refine own_go (fun _ k => XS.ifNo X56.here hx rfl (hb hby at_167) rfl (Jvm.Free.XT.i0_eq_f hc63) k) ?_
        show own_Go _ _ _ _ T56 (mkF m 170 #[.val (.int p_1), .val (.int p_2), .val (.int v2), .val (.int (8 : Int32)), .val (.int (0 : Int32)), .val (.ref b45), .val (.int r57), .val (.int (1 : Int32)), .val (.int (1 : Int32))] [])
        refine own_go (fun _ k => XS.iconst X56.here hx rfl (hb hby at_170) k) ?_
        show own_Go _ _ _ _ T56 (mkF m 171 #[.val (.int p_1), .val (.int p_2), .val (.int v2), .val (.int (8 : Int32)), .val (.int (0 : Int32)), .val (.ref b45), .val (.int r57), .val (.int (1 : Int32)), .val (.int (1 : Int32))] [(.int (1 : Int32))])
        refine own_go (fun _ k => XS.goto X56.here hx rfl (pc0 := 171) (pc' := 175) rfl (hb hby at_171) (by decide) (by decide) k) ?_
        show own_Go _ _ _ _ T56 (mkF m 175 #[.val (.int p_1), .val (.int p_2), .val (.int v2), .val (.int (8 : Int32)), .val (.int (0 : Int32)), .val (.ref b45), .val (.int r57), .val (.int (1 : Int32)), .val (.int (1 : Int32))] [(.int (1 : Int32))])
        obtain ⟨fs, hr, hrun, hended, hW, hsame⟩ := X56.leave (v := some (.int (1 : Int32))) (fun h => by rw [Bd.returns] at h; cases h)
        refine ⟨_, _, retOut X56 hx Bd.returns rfl (Or.inl ⟨rfl, Or.inr (Or.inl rfl), _, rfl⟩) (hb hby at_175) hr, hrun, hended, _, _, rfl, ?_, ⟨_, rfl⟩, hW, hsame.mono (by decide) (by decide)⟩
        show own_Q0 Z p_1 p_2 h0 n0 _ T56.heap _
        rw [e56]
        exact ⟨rfl, N56⟩
      · refine own_go (fun _ k => XS.ifNo X0.here hx rfl (hb hby at_55) rfl (Jvm.Free.XT.i0_eq_f hc44) k) ?_
        show own_Go _ _ _ _ s₁ (mkF m 58 #[.val (.int p_1), .val (.int p_2), .val (.int v2), .val (.int (8 : Int32)), .unset, .unset, .unset, .unset, .unset] [])
        refine own_go (fun _ k => XS.iconst X0.here hx rfl (hb hby at_58) k) ?_
        show own_Go _ _ _ _ s₁ (mkF m 59 #[.val (.int p_1), .val (.int p_2), .val (.int v2), .val (.int (8 : Int32)), .unset, .unset, .unset, .unset, .unset] [(.int (1 : Int32))])
        refine own_go (fun _ k => XS.goto X0.here hx rfl (pc0 := 59) (pc' := 63) rfl (hb hby at_59) (by decide) (by decide) k) ?_
        show own_Go _ _ _ _ s₁ (mkF m 63 #[.val (.int p_1), .val (.int p_2), .val (.int v2), .val (.int (8 : Int32)), .unset, .unset, .unset, .unset, .unset] [(.int (1 : Int32))])
        refine own_go (fun _ k => XS.istore X0.here hx rfl (hb hby at_63) rfl (l' := #[.val (.int p_1), .val (.int p_2), .val (.int v2), .val (.int (8 : Int32)), .val (.int (1 : Int32)), .unset, .unset, .unset, .unset]) rfl k) ?_
        show own_Go _ _ _ _ s₁ (mkF m 65 #[.val (.int p_1), .val (.int p_2), .val (.int v2), .val (.int (8 : Int32)), .val (.int (1 : Int32)), .unset, .unset, .unset, .unset] [])
        obtain ⟨T65, h65, X65, e65, E65, A65, D65, Y65, st65⟩ := newO X0 hx hZ hown (hw _ (List.mem_of_getElem? (i := 1) rfl)) (hw _ (List.mem_of_getElem? (i := 2) rfl)) (hw _ (List.mem_of_getElem? (i := 3) rfl)) e0 (g := (mkF m 65 #[.val (.int p_1), .val (.int p_2), .val (.int v2), .val (.int (8 : Int32)), .val (.int (1 : Int32)), .unset, .unset, .unset, .unset] [])) rfl (hb hby at_65) (by decide) (by decide)
        obtain ⟨b65, g65⟩ : ∃ z, z = h0.size := ⟨_, rfl⟩
        rw [← g65] at A65 D65 Y65 st65
        have z66 := E65.1
        have lt_b65 := A65.lt
        have F_bits_b65 : Fld Z h65 b65 "com/example/tessera/tessera/IntType" "bits" "I" (.int (0 : Int32)) := D65 (Or.inr (hw _ (List.mem_of_getElem? (i := 16) rfl))) (ty := .int) (by decide)
        have F_signed_b65 : Fld Z h65 b65 "com/example/tessera/tessera/IntType" "signed" "Z" (.int (0 : Int32)) := D65 (Or.inr (hw _ (List.mem_of_getElem? (i := 18) rfl))) (ty := .boolean) (by decide)
        refine own_go (fun _ k => st65 _ k) ?_
        show own_Go _ _ _ _ T65 (mkF m 68 #[.val (.int p_1), .val (.int p_2), .val (.int v2), .val (.int (8 : Int32)), .val (.int (1 : Int32)), .unset, .unset, .unset, .unset] [(.ref b65)])
        refine own_go (fun _ k => XS.dup X65.here hx rfl (hb hby at_68) rfl rfl k) ?_
        show own_Go _ _ _ _ T65 (mkF m 69 #[.val (.int p_1), .val (.int p_2), .val (.int v2), .val (.int (8 : Int32)), .val (.int (1 : Int32)), .unset, .unset, .unset, .unset] [(.ref b65), (.ref b65)])
        refine own_go (fun _ k => XS.iloadN X65.here hx rfl (hb hby at_69) rfl k) ?_
        show own_Go _ _ _ _ T65 (mkF m 70 #[.val (.int p_1), .val (.int p_2), .val (.int v2), .val (.int (8 : Int32)), .val (.int (1 : Int32)), .unset, .unset, .unset, .unset] [(.int (8 : Int32)), (.ref b65), (.ref b65)])
        refine own_go (fun _ k => XS.iload X65.here hx rfl (hb hby at_70) rfl k) ?_
        show own_Go _ _ _ _ T65 (mkF m 72 #[.val (.int p_1), .val (.int p_2), .val (.int v2), .val (.int (8 : Int32)), .val (.int (1 : Int32)), .unset, .unset, .unset, .unset] [(.int (1 : Int32)), (.int (8 : Int32)), (.ref b65), (.ref b65)])
        obtain ⟨_, _, ⟨T67, L67, k67, n67⟩, -, X67, ⟨Lc67, hQ67, l67, y67, z67⟩, st67⟩ := X65.specialBack hx (y := (⟨"com/example/tessera/tessera/IntType", "<init>", "(IZ)V"⟩ : MethodName)) rfl hown (mvT hZ (hw _ (List.mem_of_getElem? (i := 4) rfl))) (mvT hZ (hw _ (List.mem_of_getElem? (i := 5) rfl))) (mvT hZ (hw _ (List.mem_of_getElem? (i := 6) rfl))) (by decide) (backOf (W := 1) (own_rm1 l Z a0 hw [] b65 (8 : Int32) (1 : Int32) (0 : Int32) (0 : Int32) h65 n0 (by omega) (show (8 : Int32) = 1 ∨ (8 : Int32) = 8 ∨ (8 : Int32) = 16 ∨ (8 : Int32) = 32 ∨ (8 : Int32) = 64 by first | assumption | omega | decide) A65 F_bits_b65 F_signed_b65 (by omega)) hZ (hw _ (List.mem_of_getElem? (i := 6) rfl)) (hw _ (List.mem_of_getElem? (i := 3) rfl)) (by decide) (by decide)) (g := (mkF m 72 #[.val (.int p_1), .val (.int p_2), .val (.int v2), .val (.int (8 : Int32)), .val (.int (1 : Int32)), .unset, .unset, .unset, .unset] [(.int (1 : Int32)), (.int (8 : Int32)), (.ref b65), (.ref b65)])) rfl (by rw [hml]; rfl) (Steps.refl _) (a := b65) (argsL := [(.int (8 : Int32)), (.int (1 : Int32))]) (rest := [(.ref b65)]) (lenOf own_pd1 rfl) rfl (by show 2 * 0 + _ ≤ _; exact Nat.le_of_eq rfl) (hb hby at_72) (fun _ _ => ⟨rfl, e65, (by decide : 1 + 0 ≤ _), (by decide : 2 + 0 ≤ _)⟩)
        dsimp only [Pt.U, Pt.locs, Pt.cells, Pt.slots] at X67 l67 y67 z67 st67 hQ67
        subst l67 y67 z67
        obtain ⟨rfl, N67q, K67q, f68, f69, f70⟩ := hQ67
        have N67 := Fr.app N0 N67q
        have z71 := K67q.1
        have z72 := f68.lt
        have z73 := f69.lt
        obtain ⟨v74, hdv74⟩ : ∃ z : Int32, z = (nar .boolean (1 : Int32)) := ⟨_, rfl⟩
        rw [← hdv74] at f70
        have z75 := f70.lt
        refine own_go (fun _ k => st67.trans k) ?_
        show own_Go _ _ _ _ T67 (mkF m 75 #[.val (.int p_1), .val (.int p_2), .val (.int v2), .val (.int (8 : Int32)), .val (.int (1 : Int32)), .unset, .unset, .unset, .unset] [(.ref b65)])
        refine own_go (fun _ k => XS.astore X67.here hx rfl (hb hby at_75) rfl rfl (l' := #[.val (.int p_1), .val (.int p_2), .val (.int v2), .val (.int (8 : Int32)), .val (.int (1 : Int32)), .val (.ref b65), .unset, .unset, .unset]) rfl k) ?_
        show own_Go _ _ _ _ T67 (mkF m 77 #[.val (.int p_1), .val (.int p_2), .val (.int v2), .val (.int (8 : Int32)), .val (.int (1 : Int32)), .val (.ref b65), .unset, .unset, .unset] [])
        refine own_go (fun _ k => XS.aload X67.here hx rfl (hb hby at_77) rfl rfl k) ?_
        show own_Go _ _ _ _ T67 (mkF m 79 #[.val (.int p_1), .val (.int p_2), .val (.int v2), .val (.int (8 : Int32)), .val (.int (1 : Int32)), .val (.ref b65), .unset, .unset, .unset] [(.ref b65)])
        obtain ⟨cq76, kq76, q76a, q76b, q76c⟩ := isOf hZ rfl f68
        obtain ⟨_, _, ⟨T76, L76, k76, n76⟩, -, X76, ⟨Lc76, hQ76, l76, y76, z76⟩, st76⟩ := X67.virtualBack hx (y := (⟨"com/example/tessera/tessera/IntType", "fixedSize", "()I"⟩ : MethodName)) (z := (⟨"com/example/tessera/tessera/IntType", "fixedSize", "()I"⟩ : MethodName)) hown (mvT hZ (hw _ (List.mem_of_getElem? (i := 19) rfl))) (mvT hZ (hw _ (List.mem_of_getElem? (i := 20) rfl))) (notFace_of_selects (args := #[]) (mvT hZ (hw _ (List.mem_of_getElem? (i := 22) rfl)))) (mvT hZ (hw _ (List.mem_of_getElem? (i := 22) rfl))) (mvT hZ (hw _ (List.mem_of_getElem? (i := 21) rfl))) (by decide) (backOf (W := 0) (own_rm4 l Z a0 hw [] b65 (8 : Int32) T67.heap n0 (by omega) f69) hZ (hw _ (List.mem_of_getElem? (i := 23) rfl)) (hw _ (List.mem_of_getElem? (i := 3) rfl)) (by decide) (by decide)) q76a q76c (g := (mkF m 79 #[.val (.int p_1), .val (.int p_2), .val (.int v2), .val (.int (8 : Int32)), .val (.int (1 : Int32)), .val (.ref b65), .unset, .unset, .unset] [(.ref b65)])) rfl (by rw [hml]; rfl) (Steps.refl _) (argsL := []) (rest := []) (lenOf own_pd2 rfl) rfl (by show 2 * 0 + _ ≤ _; exact Nat.le_of_eq rfl) (hb hby at_79) (fun _ _ => ⟨rfl, rfl, (by decide : 1 + 0 ≤ _), (by decide : 2 + 0 ≤ _)⟩)
        dsimp only [Pt.U, Pt.locs, Pt.cells, Pt.slots] at X76 l76 y76 z76 st76 hQ76
        subst l76 y76 z76
        obtain ⟨r77, rfl, N76q, hr_r77, e76⟩ := hQ76
        have N76 := Fr.app N67 N76q
        refine own_go (fun _ k => st76.trans k) ?_
        show own_Go _ _ _ _ T76 (mkF m 82 #[.val (.int p_1), .val (.int p_2), .val (.int v2), .val (.int (8 : Int32)), .val (.int (1 : Int32)), .val (.ref b65), .unset, .unset, .unset] [(.int r77)])
        refine own_go (fun _ k => XS.istore X76.here hx rfl (hb hby at_82) rfl (l' := #[.val (.int p_1), .val (.int p_2), .val (.int v2), .val (.int (8 : Int32)), .val (.int (1 : Int32)), .val (.ref b65), .val (.int r77), .unset, .unset]) rfl k) ?_
        show own_Go _ _ _ _ T76 (mkF m 84 #[.val (.int p_1), .val (.int p_2), .val (.int v2), .val (.int (8 : Int32)), .val (.int (1 : Int32)), .val (.ref b65), .val (.int r77), .unset, .unset] [])
        refine own_go (fun _ k => XS.iloadN X76.here hx rfl (hb hby at_84) rfl k) ?_
        show own_Go _ _ _ _ T76 (mkF m 85 #[.val (.int p_1), .val (.int p_2), .val (.int v2), .val (.int (8 : Int32)), .val (.int (1 : Int32)), .val (.ref b65), .val (.int r77), .unset, .unset] [(.int v2)])
        refine own_go (fun _ k => XS.ifYes X76.here hx rfl (pc0 := 85) (pc' := 94) rfl (hb hby at_85) rfl (Jvm.Free.XT.i0_ne_t hc3) (by decide) (by decide) k) ?_
        show own_Go _ _ _ _ T76 (mkF m 94 #[.val (.int p_1), .val (.int p_2), .val (.int v2), .val (.int (8 : Int32)), .val (.int (1 : Int32)), .val (.ref b65), .val (.int r77), .unset, .unset] [])
        refine own_go (fun _ k => XS.iloadN X76.here hx rfl (hb hby at_94) rfl k) ?_
        show own_Go _ _ _ _ T76 (mkF m 95 #[.val (.int p_1), .val (.int p_2), .val (.int v2), .val (.int (8 : Int32)), .val (.int (1 : Int32)), .val (.ref b65), .val (.int r77), .unset, .unset] [(.int v2)])
        refine own_go (fun _ k => XS.iconst X76.here hx rfl (hb hby at_95) k) ?_
        show own_Go _ _ _ _ T76 (mkF m 96 #[.val (.int p_1), .val (.int p_2), .val (.int v2), .val (.int (8 : Int32)), .val (.int (1 : Int32)), .val (.ref b65), .val (.int r77), .unset, .unset] [(.int (1 : Int32)), (.int v2)])
        refine own_go (fun _ k => XS.icmpNo X76.here hx rfl (hb hby at_96) rfl (Jvm.Free.XT.ii_ne_f hc43) k) ?_
        show own_Go _ _ _ _ T76 (mkF m 99 #[.val (.int p_1), .val (.int p_2), .val (.int v2), .val (.int (8 : Int32)), .val (.int (1 : Int32)), .val (.ref b65), .val (.int r77), .unset, .unset] [])
        refine own_go (fun _ k => XS.iconst X76.here hx rfl (hb hby at_99) k) ?_
        show own_Go _ _ _ _ T76 (mkF m 100 #[.val (.int p_1), .val (.int p_2), .val (.int v2), .val (.int (8 : Int32)), .val (.int (1 : Int32)), .val (.ref b65), .val (.int r77), .unset, .unset] [(.int (1 : Int32))])
        refine own_go (fun _ k => XS.istore X76.here hx rfl (hb hby at_100) rfl (l' := #[.val (.int p_1), .val (.int p_2), .val (.int v2), .val (.int (8 : Int32)), .val (.int (1 : Int32)), .val (.ref b65), .val (.int r77), .val (.int (1 : Int32)), .unset]) rfl k) ?_
        show own_Go _ _ _ _ T76 (mkF m 102 #[.val (.int p_1), .val (.int p_2), .val (.int v2), .val (.int (8 : Int32)), .val (.int (1 : Int32)), .val (.ref b65), .val (.int r77), .val (.int (1 : Int32)), .unset] [])
        refine own_go (fun _ k => XS.goto X76.here hx rfl (pc0 := 102) (pc' := 131) rfl (hb hby at_102) (by decide) (by decide) k) ?_
        show own_Go _ _ _ _ T76 (mkF m 131 #[.val (.int p_1), .val (.int p_2), .val (.int v2), .val (.int (8 : Int32)), .val (.int (1 : Int32)), .val (.ref b65), .val (.int r77), .val (.int (1 : Int32)), .unset] [])
        refine own_go (fun _ k => XS.bipush X76.here hx rfl (hb hby at_131) k) ?_
        show own_Go _ _ _ _ T76 (mkF m 133 #[.val (.int p_1), .val (.int p_2), .val (.int v2), .val (.int (8 : Int32)), .val (.int (1 : Int32)), .val (.ref b65), .val (.int r77), .val (.int (1 : Int32)), .unset] [(.int (8 : Int32))])
        refine own_go (fun _ k => XS.iload X76.here hx rfl (hb hby at_133) rfl k) ?_
        show own_Go _ _ _ _ T76 (mkF m 135 #[.val (.int p_1), .val (.int p_2), .val (.int v2), .val (.int (8 : Int32)), .val (.int (1 : Int32)), .val (.ref b65), .val (.int r77), .val (.int (1 : Int32)), .unset] [(.int r77), (.int (8 : Int32))])
        refine own_go (fun _ k => XS.imul X76.here hx rfl (hb hby at_135) rfl k) ?_
        show own_Go _ _ _ _ T76 (mkF m 136 #[.val (.int p_1), .val (.int p_2), .val (.int v2), .val (.int (8 : Int32)), .val (.int (1 : Int32)), .val (.ref b65), .val (.int r77), .val (.int (1 : Int32)), .unset] [(.int ((8 : Int32) * r77))])
        refine own_go (fun _ k => XS.iloadN X76.here hx rfl (hb hby at_136) rfl k) ?_
        show own_Go _ _ _ _ T76 (mkF m 137 #[.val (.int p_1), .val (.int p_2), .val (.int v2), .val (.int (8 : Int32)), .val (.int (1 : Int32)), .val (.ref b65), .val (.int r77), .val (.int (1 : Int32)), .unset] [(.int (8 : Int32)), (.int ((8 : Int32) * r77))])
        have hc80 : ¬ (((8 : Int32) * r77) < (8 : Int32)) := own_t0_9 r77 hr_r77
        refine own_go (fun _ k => XS.icmpNo X76.here hx rfl (hb hby at_137) rfl (Jvm.Free.XT.ii_lt_f hc80) k) ?_
        show own_Go _ _ _ _ T76 (mkF m 140 #[.val (.int p_1), .val (.int p_2), .val (.int v2), .val (.int (8 : Int32)), .val (.int (1 : Int32)), .val (.ref b65), .val (.int r77), .val (.int (1 : Int32)), .unset] [])
        refine own_go (fun _ k => XS.bipush X76.here hx rfl (hb hby at_140) k) ?_
        show own_Go _ _ _ _ T76 (mkF m 142 #[.val (.int p_1), .val (.int p_2), .val (.int v2), .val (.int (8 : Int32)), .val (.int (1 : Int32)), .val (.ref b65), .val (.int r77), .val (.int (1 : Int32)), .unset] [(.int (8 : Int32))])
        refine own_go (fun _ k => XS.iload X76.here hx rfl (hb hby at_142) rfl k) ?_
        show own_Go _ _ _ _ T76 (mkF m 144 #[.val (.int p_1), .val (.int p_2), .val (.int v2), .val (.int (8 : Int32)), .val (.int (1 : Int32)), .val (.ref b65), .val (.int r77), .val (.int (1 : Int32)), .unset] [(.int r77), (.int (8 : Int32))])
        refine own_go (fun _ k => XS.iconst X76.here hx rfl (hb hby at_144) k) ?_
        show own_Go _ _ _ _ T76 (mkF m 145 #[.val (.int p_1), .val (.int p_2), .val (.int v2), .val (.int (8 : Int32)), .val (.int (1 : Int32)), .val (.ref b65), .val (.int r77), .val (.int (1 : Int32)), .unset] [(.int (1 : Int32)), (.int r77), (.int (8 : Int32))])
        refine own_go (fun _ k => XS.isub X76.here hx rfl (hb hby at_145) rfl k) ?_
        show own_Go _ _ _ _ T76 (mkF m 146 #[.val (.int p_1), .val (.int p_2), .val (.int v2), .val (.int (8 : Int32)), .val (.int (1 : Int32)), .val (.ref b65), .val (.int r77), .val (.int (1 : Int32)), .unset] [(.int (r77 - (1 : Int32))), (.int (8 : Int32))])
        refine own_go (fun _ k => XS.imul X76.here hx rfl (hb hby at_146) rfl k) ?_
        show own_Go _ _ _ _ T76 (mkF m 147 #[.val (.int p_1), .val (.int p_2), .val (.int v2), .val (.int (8 : Int32)), .val (.int (1 : Int32)), .val (.ref b65), .val (.int r77), .val (.int (1 : Int32)), .unset] [(.int ((8 : Int32) * (r77 - (1 : Int32))))])
        refine own_go (fun _ k => XS.iloadN X76.here hx rfl (hb hby at_147) rfl k) ?_
        show own_Go _ _ _ _ T76 (mkF m 148 #[.val (.int p_1), .val (.int p_2), .val (.int v2), .val (.int (8 : Int32)), .val (.int (1 : Int32)), .val (.ref b65), .val (.int r77), .val (.int (1 : Int32)), .unset] [(.int (8 : Int32)), (.int ((8 : Int32) * (r77 - (1 : Int32))))])
        have hc81 : ((8 : Int32) * (r77 - (1 : Int32))) < (8 : Int32) := own_t0_10 r77 hr_r77 hc80
        refine own_go (fun _ k => XS.icmpNo X76.here hx rfl (hb hby at_148) rfl (Jvm.Free.XT.ii_ge_f hc81) k) ?_
        show own_Go _ _ _ _ T76 (mkF m 151 #[.val (.int p_1), .val (.int p_2), .val (.int v2), .val (.int (8 : Int32)), .val (.int (1 : Int32)), .val (.ref b65), .val (.int r77), .val (.int (1 : Int32)), .unset] [])
        refine own_go (fun _ k => XS.iconst X76.here hx rfl (hb hby at_151) k) ?_
        show own_Go _ _ _ _ T76 (mkF m 152 #[.val (.int p_1), .val (.int p_2), .val (.int v2), .val (.int (8 : Int32)), .val (.int (1 : Int32)), .val (.ref b65), .val (.int r77), .val (.int (1 : Int32)), .unset] [(.int (1 : Int32))])
        refine own_go (fun _ k => XS.goto X76.here hx rfl (pc0 := 152) (pc' := 156) rfl (hb hby at_152) (by decide) (by decide) k) ?_
        show own_Go _ _ _ _ T76 (mkF m 156 #[.val (.int p_1), .val (.int p_2), .val (.int v2), .val (.int (8 : Int32)), .val (.int (1 : Int32)), .val (.ref b65), .val (.int r77), .val (.int (1 : Int32)), .unset] [(.int (1 : Int32))])
        refine own_go (fun _ k => XS.istore X76.here hx rfl (hb hby at_156) rfl (l' := #[.val (.int p_1), .val (.int p_2), .val (.int v2), .val (.int (8 : Int32)), .val (.int (1 : Int32)), .val (.ref b65), .val (.int r77), .val (.int (1 : Int32)), .val (.int (1 : Int32))]) rfl k) ?_
        show own_Go _ _ _ _ T76 (mkF m 158 #[.val (.int p_1), .val (.int p_2), .val (.int v2), .val (.int (8 : Int32)), .val (.int (1 : Int32)), .val (.ref b65), .val (.int r77), .val (.int (1 : Int32)), .val (.int (1 : Int32))] [])
        refine own_go (fun _ k => XS.iload X76.here hx rfl (hb hby at_158) rfl k) ?_
        show own_Go _ _ _ _ T76 (mkF m 160 #[.val (.int p_1), .val (.int p_2), .val (.int v2), .val (.int (8 : Int32)), .val (.int (1 : Int32)), .val (.ref b65), .val (.int r77), .val (.int (1 : Int32)), .val (.int (1 : Int32))] [(.int r77)])
        refine own_go (fun _ k => XS.iload X76.here hx rfl (hb hby at_160) rfl k) ?_
        show own_Go _ _ _ _ T76 (mkF m 162 #[.val (.int p_1), .val (.int p_2), .val (.int v2), .val (.int (8 : Int32)), .val (.int (1 : Int32)), .val (.ref b65), .val (.int r77), .val (.int (1 : Int32)), .val (.int (1 : Int32))] [(.int (1 : Int32)), (.int r77)])
        have hc82 : r77 = (1 : Int32) := own_t0_11 r77 hr_r77 hc80 hc81
        refine own_go (fun _ k => XS.icmpNo X76.here hx rfl (hb hby at_162) rfl (Jvm.Free.XT.ii_ne_f hc82) k) ?_
        show own_Go _ _ _ _ T76 (mkF m 165 #[.val (.int p_1), .val (.int p_2), .val (.int v2), .val (.int (8 : Int32)), .val (.int (1 : Int32)), .val (.ref b65), .val (.int r77), .val (.int (1 : Int32)), .val (.int (1 : Int32))] [])
        refine own_go (fun _ k => XS.iload X76.here hx rfl (hb hby at_165) rfl k) ?_
        show own_Go _ _ _ _ T76 (mkF m 167 #[.val (.int p_1), .val (.int p_2), .val (.int v2), .val (.int (8 : Int32)), .val (.int (1 : Int32)), .val (.ref b65), .val (.int r77), .val (.int (1 : Int32)), .val (.int (1 : Int32))] [(.int (1 : Int32))])
        have hc83 : ¬ ((1 : Int32) = 0) := by decide
        refine own_go (fun _ k => XS.ifNo X76.here hx rfl (hb hby at_167) rfl (Jvm.Free.XT.i0_eq_f hc83) k) ?_
        show own_Go _ _ _ _ T76 (mkF m 170 #[.val (.int p_1), .val (.int p_2), .val (.int v2), .val (.int (8 : Int32)), .val (.int (1 : Int32)), .val (.ref b65), .val (.int r77), .val (.int (1 : Int32)), .val (.int (1 : Int32))] [])
        refine own_go (fun _ k => XS.iconst X76.here hx rfl (hb hby at_170) k) ?_
        show own_Go _ _ _ _ T76 (mkF m 171 #[.val (.int p_1), .val (.int p_2), .val (.int v2), .val (.int (8 : Int32)), .val (.int (1 : Int32)), .val (.ref b65), .val (.int r77), .val (.int (1 : Int32)), .val (.int (1 : Int32))] [(.int (1 : Int32))])
        refine own_go (fun _ k => XS.goto X76.here hx rfl (pc0 := 171) (pc' := 175) rfl (hb hby at_171) (by decide) (by decide) k) ?_
        show own_Go _ _ _ _ T76 (mkF m 175 #[.val (.int p_1), .val (.int p_2), .val (.int v2), .val (.int (8 : Int32)), .val (.int (1 : Int32)), .val (.ref b65), .val (.int r77), .val (.int (1 : Int32)), .val (.int (1 : Int32))] [(.int (1 : Int32))])
        obtain ⟨fs, hr, hrun, hended, hW, hsame⟩ := X76.leave (v := some (.int (1 : Int32))) (fun h => by rw [Bd.returns] at h; cases h)
        refine ⟨_, _, retOut X76 hx Bd.returns rfl (Or.inl ⟨rfl, Or.inr (Or.inl rfl), _, rfl⟩) (hb hby at_175) hr, hrun, hended, _, _, rfl, ?_, ⟨_, rfl⟩, hW, hsame.mono (by decide) (by decide)⟩
        show own_Q0 Z p_1 p_2 h0 n0 _ T76.heap _
        rw [e76]
        exact ⟨rfl, N76⟩
    · refine own_go (fun _ k => XS.icmpYes X0.here hx rfl (pc0 := 18) (pc' := 27) rfl (hb hby at_18) rfl (Jvm.Free.XT.ii_ne_t hc43) (by decide) (by decide) k) ?_
      show own_Go _ _ _ _ s₁ (mkF m 27 #[.val (.int p_1), .val (.int p_2), .val (.int v2), .unset, .unset, .unset, .unset, .unset, .unset] [])
      refine own_go (fun _ k => XS.iloadN X0.here hx rfl (hb hby at_27) rfl k) ?_
      show own_Go _ _ _ _ s₁ (mkF m 28 #[.val (.int p_1), .val (.int p_2), .val (.int v2), .unset, .unset, .unset, .unset, .unset, .unset] [(.int v2)])
      refine own_go (fun _ k => XS.iconst X0.here hx rfl (hb hby at_28) k) ?_
      show own_Go _ _ _ _ s₁ (mkF m 29 #[.val (.int p_1), .val (.int p_2), .val (.int v2), .unset, .unset, .unset, .unset, .unset, .unset] [(.int (2 : Int32)), (.int v2)])
      by_cases hc85 : v2 = (2 : Int32)
      · refine own_go (fun _ k => XS.icmpNo X0.here hx rfl (hb hby at_29) rfl (Jvm.Free.XT.ii_ne_f hc85) k) ?_
        show own_Go _ _ _ _ s₁ (mkF m 32 #[.val (.int p_1), .val (.int p_2), .val (.int v2), .unset, .unset, .unset, .unset, .unset, .unset] [])
        refine own_go (fun _ k => XS.bipush X0.here hx rfl (hb hby at_32) k) ?_
        show own_Go _ _ _ _ s₁ (mkF m 34 #[.val (.int p_1), .val (.int p_2), .val (.int v2), .unset, .unset, .unset, .unset, .unset, .unset] [(.int (16 : Int32))])
        refine own_go (fun _ k => XS.istoreN X0.here hx rfl (hb hby at_34) rfl (l' := #[.val (.int p_1), .val (.int p_2), .val (.int v2), .val (.int (16 : Int32)), .unset, .unset, .unset, .unset, .unset]) rfl k) ?_
        show own_Go _ _ _ _ s₁ (mkF m 35 #[.val (.int p_1), .val (.int p_2), .val (.int v2), .val (.int (16 : Int32)), .unset, .unset, .unset, .unset, .unset] [])
        refine own_go (fun _ k => XS.goto X0.here hx rfl (pc0 := 35) (pc' := 52) rfl (hb hby at_35) (by decide) (by decide) k) ?_
        show own_Go _ _ _ _ s₁ (mkF m 52 #[.val (.int p_1), .val (.int p_2), .val (.int v2), .val (.int (16 : Int32)), .unset, .unset, .unset, .unset, .unset] [])
        refine own_go (fun _ k => XS.iloadN X0.here hx rfl (hb hby at_52) rfl k) ?_
        show own_Go _ _ _ _ s₁ (mkF m 53 #[.val (.int p_1), .val (.int p_2), .val (.int v2), .val (.int (16 : Int32)), .unset, .unset, .unset, .unset, .unset] [(.int p_2)])
        refine own_go (fun _ k => XS.iconst X0.here hx rfl (hb hby at_53) k) ?_
        show own_Go _ _ _ _ s₁ (mkF m 54 #[.val (.int p_1), .val (.int p_2), .val (.int v2), .val (.int (16 : Int32)), .unset, .unset, .unset, .unset, .unset] [(.int (1 : Int32)), (.int p_2)])
        refine own_go (fun _ k => XS.iand X0.here hx rfl (hb hby at_54) rfl k) ?_
        show own_Go _ _ _ _ s₁ (mkF m 55 #[.val (.int p_1), .val (.int p_2), .val (.int v2), .val (.int (16 : Int32)), .unset, .unset, .unset, .unset, .unset] [(.int (p_2 &&& (1 : Int32)))])
        by_cases hc86 : (p_2 &&& (1 : Int32)) = 0
        · refine own_go (fun _ k => XS.ifYes X0.here hx rfl (pc0 := 55) (pc' := 62) rfl (hb hby at_55) rfl (Jvm.Free.XT.i0_eq_t hc86) (by decide) (by decide) k) ?_
          show own_Go _ _ _ _ s₁ (mkF m 62 #[.val (.int p_1), .val (.int p_2), .val (.int v2), .val (.int (16 : Int32)), .unset, .unset, .unset, .unset, .unset] [])
          refine own_go (fun _ k => XS.iconst X0.here hx rfl (hb hby at_62) k) ?_
          show own_Go _ _ _ _ s₁ (mkF m 63 #[.val (.int p_1), .val (.int p_2), .val (.int v2), .val (.int (16 : Int32)), .unset, .unset, .unset, .unset, .unset] [(.int (0 : Int32))])
          refine own_go (fun _ k => XS.istore X0.here hx rfl (hb hby at_63) rfl (l' := #[.val (.int p_1), .val (.int p_2), .val (.int v2), .val (.int (16 : Int32)), .val (.int (0 : Int32)), .unset, .unset, .unset, .unset]) rfl k) ?_
          show own_Go _ _ _ _ s₁ (mkF m 65 #[.val (.int p_1), .val (.int p_2), .val (.int v2), .val (.int (16 : Int32)), .val (.int (0 : Int32)), .unset, .unset, .unset, .unset] [])
          obtain ⟨T87, h87, X87, e87, E87, A87, D87, Y87, st87⟩ := newO X0 hx hZ hown (hw _ (List.mem_of_getElem? (i := 1) rfl)) (hw _ (List.mem_of_getElem? (i := 2) rfl)) (hw _ (List.mem_of_getElem? (i := 3) rfl)) e0 (g := (mkF m 65 #[.val (.int p_1), .val (.int p_2), .val (.int v2), .val (.int (16 : Int32)), .val (.int (0 : Int32)), .unset, .unset, .unset, .unset] [])) rfl (hb hby at_65) (by decide) (by decide)
          obtain ⟨b87, g87⟩ : ∃ z, z = h0.size := ⟨_, rfl⟩
          rw [← g87] at A87 D87 Y87 st87
          have z88 := E87.1
          have lt_b87 := A87.lt
          have F_bits_b87 : Fld Z h87 b87 "com/example/tessera/tessera/IntType" "bits" "I" (.int (0 : Int32)) := D87 (Or.inr (hw _ (List.mem_of_getElem? (i := 16) rfl))) (ty := .int) (by decide)
          have F_signed_b87 : Fld Z h87 b87 "com/example/tessera/tessera/IntType" "signed" "Z" (.int (0 : Int32)) := D87 (Or.inr (hw _ (List.mem_of_getElem? (i := 18) rfl))) (ty := .boolean) (by decide)
          refine own_go (fun _ k => st87 _ k) ?_
          show own_Go _ _ _ _ T87 (mkF m 68 #[.val (.int p_1), .val (.int p_2), .val (.int v2), .val (.int (16 : Int32)), .val (.int (0 : Int32)), .unset, .unset, .unset, .unset] [(.ref b87)])
          refine own_go (fun _ k => XS.dup X87.here hx rfl (hb hby at_68) rfl rfl k) ?_
          show own_Go _ _ _ _ T87 (mkF m 69 #[.val (.int p_1), .val (.int p_2), .val (.int v2), .val (.int (16 : Int32)), .val (.int (0 : Int32)), .unset, .unset, .unset, .unset] [(.ref b87), (.ref b87)])
          refine own_go (fun _ k => XS.iloadN X87.here hx rfl (hb hby at_69) rfl k) ?_
          show own_Go _ _ _ _ T87 (mkF m 70 #[.val (.int p_1), .val (.int p_2), .val (.int v2), .val (.int (16 : Int32)), .val (.int (0 : Int32)), .unset, .unset, .unset, .unset] [(.int (16 : Int32)), (.ref b87), (.ref b87)])
          refine own_go (fun _ k => XS.iload X87.here hx rfl (hb hby at_70) rfl k) ?_
          show own_Go _ _ _ _ T87 (mkF m 72 #[.val (.int p_1), .val (.int p_2), .val (.int v2), .val (.int (16 : Int32)), .val (.int (0 : Int32)), .unset, .unset, .unset, .unset] [(.int (0 : Int32)), (.int (16 : Int32)), (.ref b87), (.ref b87)])
          obtain ⟨_, _, ⟨T89, L89, k89, n89⟩, -, X89, ⟨Lc89, hQ89, l89, y89, z89⟩, st89⟩ := X87.specialBack hx (y := (⟨"com/example/tessera/tessera/IntType", "<init>", "(IZ)V"⟩ : MethodName)) rfl hown (mvT hZ (hw _ (List.mem_of_getElem? (i := 4) rfl))) (mvT hZ (hw _ (List.mem_of_getElem? (i := 5) rfl))) (mvT hZ (hw _ (List.mem_of_getElem? (i := 6) rfl))) (by decide) (backOf (W := 1) (own_rm1 l Z a0 hw [] b87 (16 : Int32) (0 : Int32) (0 : Int32) (0 : Int32) h87 n0 (by omega) (show (16 : Int32) = 1 ∨ (16 : Int32) = 8 ∨ (16 : Int32) = 16 ∨ (16 : Int32) = 32 ∨ (16 : Int32) = 64 by first | assumption | omega | decide) A87 F_bits_b87 F_signed_b87 (by omega)) hZ (hw _ (List.mem_of_getElem? (i := 6) rfl)) (hw _ (List.mem_of_getElem? (i := 3) rfl)) (by decide) (by decide)) (g := (mkF m 72 #[.val (.int p_1), .val (.int p_2), .val (.int v2), .val (.int (16 : Int32)), .val (.int (0 : Int32)), .unset, .unset, .unset, .unset] [(.int (0 : Int32)), (.int (16 : Int32)), (.ref b87), (.ref b87)])) rfl (by rw [hml]; rfl) (Steps.refl _) (a := b87) (argsL := [(.int (16 : Int32)), (.int (0 : Int32))]) (rest := [(.ref b87)]) (lenOf own_pd1 rfl) rfl (by show 2 * 0 + _ ≤ _; exact Nat.le_of_eq rfl) (hb hby at_72) (fun _ _ => ⟨rfl, e87, (by decide : 1 + 0 ≤ _), (by decide : 2 + 0 ≤ _)⟩)
          dsimp only [Pt.U, Pt.locs, Pt.cells, Pt.slots] at X89 l89 y89 z89 st89 hQ89
          subst l89 y89 z89
          obtain ⟨rfl, N89q, K89q, f90, f91, f92⟩ := hQ89
          have N89 := Fr.app N0 N89q
          have z93 := K89q.1
          have z94 := f90.lt
          have z95 := f91.lt
          obtain ⟨v96, hdv96⟩ : ∃ z : Int32, z = (nar .boolean (0 : Int32)) := ⟨_, rfl⟩
          rw [← hdv96] at f92
          have z97 := f92.lt
          refine own_go (fun _ k => st89.trans k) ?_
          show own_Go _ _ _ _ T89 (mkF m 75 #[.val (.int p_1), .val (.int p_2), .val (.int v2), .val (.int (16 : Int32)), .val (.int (0 : Int32)), .unset, .unset, .unset, .unset] [(.ref b87)])
          refine own_go (fun _ k => XS.astore X89.here hx rfl (hb hby at_75) rfl rfl (l' := #[.val (.int p_1), .val (.int p_2), .val (.int v2), .val (.int (16 : Int32)), .val (.int (0 : Int32)), .val (.ref b87), .unset, .unset, .unset]) rfl k) ?_
          show own_Go _ _ _ _ T89 (mkF m 77 #[.val (.int p_1), .val (.int p_2), .val (.int v2), .val (.int (16 : Int32)), .val (.int (0 : Int32)), .val (.ref b87), .unset, .unset, .unset] [])
          refine own_go (fun _ k => XS.aload X89.here hx rfl (hb hby at_77) rfl rfl k) ?_
          show own_Go _ _ _ _ T89 (mkF m 79 #[.val (.int p_1), .val (.int p_2), .val (.int v2), .val (.int (16 : Int32)), .val (.int (0 : Int32)), .val (.ref b87), .unset, .unset, .unset] [(.ref b87)])
          obtain ⟨cq98, kq98, q98a, q98b, q98c⟩ := isOf hZ rfl f90
          obtain ⟨_, _, ⟨T98, L98, k98, n98⟩, -, X98, ⟨Lc98, hQ98, l98, y98, z98⟩, st98⟩ := X89.virtualBack hx (y := (⟨"com/example/tessera/tessera/IntType", "fixedSize", "()I"⟩ : MethodName)) (z := (⟨"com/example/tessera/tessera/IntType", "fixedSize", "()I"⟩ : MethodName)) hown (mvT hZ (hw _ (List.mem_of_getElem? (i := 19) rfl))) (mvT hZ (hw _ (List.mem_of_getElem? (i := 20) rfl))) (notFace_of_selects (args := #[]) (mvT hZ (hw _ (List.mem_of_getElem? (i := 22) rfl)))) (mvT hZ (hw _ (List.mem_of_getElem? (i := 22) rfl))) (mvT hZ (hw _ (List.mem_of_getElem? (i := 21) rfl))) (by decide) (backOf (W := 0) (own_rm4 l Z a0 hw [] b87 (16 : Int32) T89.heap n0 (by omega) f91) hZ (hw _ (List.mem_of_getElem? (i := 23) rfl)) (hw _ (List.mem_of_getElem? (i := 3) rfl)) (by decide) (by decide)) q98a q98c (g := (mkF m 79 #[.val (.int p_1), .val (.int p_2), .val (.int v2), .val (.int (16 : Int32)), .val (.int (0 : Int32)), .val (.ref b87), .unset, .unset, .unset] [(.ref b87)])) rfl (by rw [hml]; rfl) (Steps.refl _) (argsL := []) (rest := []) (lenOf own_pd2 rfl) rfl (by show 2 * 0 + _ ≤ _; exact Nat.le_of_eq rfl) (hb hby at_79) (fun _ _ => ⟨rfl, rfl, (by decide : 1 + 0 ≤ _), (by decide : 2 + 0 ≤ _)⟩)
          dsimp only [Pt.U, Pt.locs, Pt.cells, Pt.slots] at X98 l98 y98 z98 st98 hQ98
          subst l98 y98 z98
          obtain ⟨r99, rfl, N98q, hr_r99, e98⟩ := hQ98
          have N98 := Fr.app N89 N98q
          refine own_go (fun _ k => st98.trans k) ?_
          show own_Go _ _ _ _ T98 (mkF m 82 #[.val (.int p_1), .val (.int p_2), .val (.int v2), .val (.int (16 : Int32)), .val (.int (0 : Int32)), .val (.ref b87), .unset, .unset, .unset] [(.int r99)])
          refine own_go (fun _ k => XS.istore X98.here hx rfl (hb hby at_82) rfl (l' := #[.val (.int p_1), .val (.int p_2), .val (.int v2), .val (.int (16 : Int32)), .val (.int (0 : Int32)), .val (.ref b87), .val (.int r99), .unset, .unset]) rfl k) ?_
          show own_Go _ _ _ _ T98 (mkF m 84 #[.val (.int p_1), .val (.int p_2), .val (.int v2), .val (.int (16 : Int32)), .val (.int (0 : Int32)), .val (.ref b87), .val (.int r99), .unset, .unset] [])
          refine own_go (fun _ k => XS.iloadN X98.here hx rfl (hb hby at_84) rfl k) ?_
          show own_Go _ _ _ _ T98 (mkF m 85 #[.val (.int p_1), .val (.int p_2), .val (.int v2), .val (.int (16 : Int32)), .val (.int (0 : Int32)), .val (.ref b87), .val (.int r99), .unset, .unset] [(.int v2)])
          refine own_go (fun _ k => XS.ifYes X98.here hx rfl (pc0 := 85) (pc' := 94) rfl (hb hby at_85) rfl (Jvm.Free.XT.i0_ne_t hc3) (by decide) (by decide) k) ?_
          show own_Go _ _ _ _ T98 (mkF m 94 #[.val (.int p_1), .val (.int p_2), .val (.int v2), .val (.int (16 : Int32)), .val (.int (0 : Int32)), .val (.ref b87), .val (.int r99), .unset, .unset] [])
          refine own_go (fun _ k => XS.iloadN X98.here hx rfl (hb hby at_94) rfl k) ?_
          show own_Go _ _ _ _ T98 (mkF m 95 #[.val (.int p_1), .val (.int p_2), .val (.int v2), .val (.int (16 : Int32)), .val (.int (0 : Int32)), .val (.ref b87), .val (.int r99), .unset, .unset] [(.int v2)])
          refine own_go (fun _ k => XS.iconst X98.here hx rfl (hb hby at_95) k) ?_
          show own_Go _ _ _ _ T98 (mkF m 96 #[.val (.int p_1), .val (.int p_2), .val (.int v2), .val (.int (16 : Int32)), .val (.int (0 : Int32)), .val (.ref b87), .val (.int r99), .unset, .unset] [(.int (1 : Int32)), (.int v2)])
          refine own_go (fun _ k => XS.icmpYes X98.here hx rfl (pc0 := 96) (pc' := 105) rfl (hb hby at_96) rfl (Jvm.Free.XT.ii_ne_t hc43) (by decide) (by decide) k) ?_
          show own_Go _ _ _ _ T98 (mkF m 105 #[.val (.int p_1), .val (.int p_2), .val (.int v2), .val (.int (16 : Int32)), .val (.int (0 : Int32)), .val (.ref b87), .val (.int r99), .unset, .unset] [])
          refine own_go (fun _ k => XS.iloadN X98.here hx rfl (hb hby at_105) rfl k) ?_
          show own_Go _ _ _ _ T98 (mkF m 106 #[.val (.int p_1), .val (.int p_2), .val (.int v2), .val (.int (16 : Int32)), .val (.int (0 : Int32)), .val (.ref b87), .val (.int r99), .unset, .unset] [(.int v2)])
          refine own_go (fun _ k => XS.iconst X98.here hx rfl (hb hby at_106) k) ?_
          show own_Go _ _ _ _ T98 (mkF m 107 #[.val (.int p_1), .val (.int p_2), .val (.int v2), .val (.int (16 : Int32)), .val (.int (0 : Int32)), .val (.ref b87), .val (.int r99), .unset, .unset] [(.int (2 : Int32)), (.int v2)])
          refine own_go (fun _ k => XS.icmpNo X98.here hx rfl (hb hby at_107) rfl (Jvm.Free.XT.ii_ne_f hc85) k) ?_
          show own_Go _ _ _ _ T98 (mkF m 110 #[.val (.int p_1), .val (.int p_2), .val (.int v2), .val (.int (16 : Int32)), .val (.int (0 : Int32)), .val (.ref b87), .val (.int r99), .unset, .unset] [])
          refine own_go (fun _ k => XS.iconst X98.here hx rfl (hb hby at_110) k) ?_
          show own_Go _ _ _ _ T98 (mkF m 111 #[.val (.int p_1), .val (.int p_2), .val (.int v2), .val (.int (16 : Int32)), .val (.int (0 : Int32)), .val (.ref b87), .val (.int r99), .unset, .unset] [(.int (2 : Int32))])
          refine own_go (fun _ k => XS.istore X98.here hx rfl (hb hby at_111) rfl (l' := #[.val (.int p_1), .val (.int p_2), .val (.int v2), .val (.int (16 : Int32)), .val (.int (0 : Int32)), .val (.ref b87), .val (.int r99), .val (.int (2 : Int32)), .unset]) rfl k) ?_
          show own_Go _ _ _ _ T98 (mkF m 113 #[.val (.int p_1), .val (.int p_2), .val (.int v2), .val (.int (16 : Int32)), .val (.int (0 : Int32)), .val (.ref b87), .val (.int r99), .val (.int (2 : Int32)), .unset] [])
          refine own_go (fun _ k => XS.goto X98.here hx rfl (pc0 := 113) (pc' := 131) rfl (hb hby at_113) (by decide) (by decide) k) ?_
          show own_Go _ _ _ _ T98 (mkF m 131 #[.val (.int p_1), .val (.int p_2), .val (.int v2), .val (.int (16 : Int32)), .val (.int (0 : Int32)), .val (.ref b87), .val (.int r99), .val (.int (2 : Int32)), .unset] [])
          refine own_go (fun _ k => XS.bipush X98.here hx rfl (hb hby at_131) k) ?_
          show own_Go _ _ _ _ T98 (mkF m 133 #[.val (.int p_1), .val (.int p_2), .val (.int v2), .val (.int (16 : Int32)), .val (.int (0 : Int32)), .val (.ref b87), .val (.int r99), .val (.int (2 : Int32)), .unset] [(.int (8 : Int32))])
          refine own_go (fun _ k => XS.iload X98.here hx rfl (hb hby at_133) rfl k) ?_
          show own_Go _ _ _ _ T98 (mkF m 135 #[.val (.int p_1), .val (.int p_2), .val (.int v2), .val (.int (16 : Int32)), .val (.int (0 : Int32)), .val (.ref b87), .val (.int r99), .val (.int (2 : Int32)), .unset] [(.int r99), (.int (8 : Int32))])
          refine own_go (fun _ k => XS.imul X98.here hx rfl (hb hby at_135) rfl k) ?_
          show own_Go _ _ _ _ T98 (mkF m 136 #[.val (.int p_1), .val (.int p_2), .val (.int v2), .val (.int (16 : Int32)), .val (.int (0 : Int32)), .val (.ref b87), .val (.int r99), .val (.int (2 : Int32)), .unset] [(.int ((8 : Int32) * r99))])
          refine own_go (fun _ k => XS.iloadN X98.here hx rfl (hb hby at_136) rfl k) ?_
          show own_Go _ _ _ _ T98 (mkF m 137 #[.val (.int p_1), .val (.int p_2), .val (.int v2), .val (.int (16 : Int32)), .val (.int (0 : Int32)), .val (.ref b87), .val (.int r99), .val (.int (2 : Int32)), .unset] [(.int (16 : Int32)), (.int ((8 : Int32) * r99))])
          have hc103 : ¬ (((8 : Int32) * r99) < (16 : Int32)) := own_t0_12 r99 hr_r99
          refine own_go (fun _ k => XS.icmpNo X98.here hx rfl (hb hby at_137) rfl (Jvm.Free.XT.ii_lt_f hc103) k) ?_
          show own_Go _ _ _ _ T98 (mkF m 140 #[.val (.int p_1), .val (.int p_2), .val (.int v2), .val (.int (16 : Int32)), .val (.int (0 : Int32)), .val (.ref b87), .val (.int r99), .val (.int (2 : Int32)), .unset] [])
          refine own_go (fun _ k => XS.bipush X98.here hx rfl (hb hby at_140) k) ?_
          show own_Go _ _ _ _ T98 (mkF m 142 #[.val (.int p_1), .val (.int p_2), .val (.int v2), .val (.int (16 : Int32)), .val (.int (0 : Int32)), .val (.ref b87), .val (.int r99), .val (.int (2 : Int32)), .unset] [(.int (8 : Int32))])
          refine own_go (fun _ k => XS.iload X98.here hx rfl (hb hby at_142) rfl k) ?_
          show own_Go _ _ _ _ T98 (mkF m 144 #[.val (.int p_1), .val (.int p_2), .val (.int v2), .val (.int (16 : Int32)), .val (.int (0 : Int32)), .val (.ref b87), .val (.int r99), .val (.int (2 : Int32)), .unset] [(.int r99), (.int (8 : Int32))])
          refine own_go (fun _ k => XS.iconst X98.here hx rfl (hb hby at_144) k) ?_
          show own_Go _ _ _ _ T98 (mkF m 145 #[.val (.int p_1), .val (.int p_2), .val (.int v2), .val (.int (16 : Int32)), .val (.int (0 : Int32)), .val (.ref b87), .val (.int r99), .val (.int (2 : Int32)), .unset] [(.int (1 : Int32)), (.int r99), (.int (8 : Int32))])
          refine own_go (fun _ k => XS.isub X98.here hx rfl (hb hby at_145) rfl k) ?_
          show own_Go _ _ _ _ T98 (mkF m 146 #[.val (.int p_1), .val (.int p_2), .val (.int v2), .val (.int (16 : Int32)), .val (.int (0 : Int32)), .val (.ref b87), .val (.int r99), .val (.int (2 : Int32)), .unset] [(.int (r99 - (1 : Int32))), (.int (8 : Int32))])
          refine own_go (fun _ k => XS.imul X98.here hx rfl (hb hby at_146) rfl k) ?_
          show own_Go _ _ _ _ T98 (mkF m 147 #[.val (.int p_1), .val (.int p_2), .val (.int v2), .val (.int (16 : Int32)), .val (.int (0 : Int32)), .val (.ref b87), .val (.int r99), .val (.int (2 : Int32)), .unset] [(.int ((8 : Int32) * (r99 - (1 : Int32))))])
          refine own_go (fun _ k => XS.iloadN X98.here hx rfl (hb hby at_147) rfl k) ?_
          show own_Go _ _ _ _ T98 (mkF m 148 #[.val (.int p_1), .val (.int p_2), .val (.int v2), .val (.int (16 : Int32)), .val (.int (0 : Int32)), .val (.ref b87), .val (.int r99), .val (.int (2 : Int32)), .unset] [(.int (16 : Int32)), (.int ((8 : Int32) * (r99 - (1 : Int32))))])
          have hc104 : ((8 : Int32) * (r99 - (1 : Int32))) < (16 : Int32) := own_t0_13 r99 hr_r99 hc103
          refine own_go (fun _ k => XS.icmpNo X98.here hx rfl (hb hby at_148) rfl (Jvm.Free.XT.ii_ge_f hc104) k) ?_
          show own_Go _ _ _ _ T98 (mkF m 151 #[.val (.int p_1), .val (.int p_2), .val (.int v2), .val (.int (16 : Int32)), .val (.int (0 : Int32)), .val (.ref b87), .val (.int r99), .val (.int (2 : Int32)), .unset] [])
          refine own_go (fun _ k => XS.iconst X98.here hx rfl (hb hby at_151) k) ?_
          show own_Go _ _ _ _ T98 (mkF m 152 #[.val (.int p_1), .val (.int p_2), .val (.int v2), .val (.int (16 : Int32)), .val (.int (0 : Int32)), .val (.ref b87), .val (.int r99), .val (.int (2 : Int32)), .unset] [(.int (1 : Int32))])
          refine own_go (fun _ k => XS.goto X98.here hx rfl (pc0 := 152) (pc' := 156) rfl (hb hby at_152) (by decide) (by decide) k) ?_
          show own_Go _ _ _ _ T98 (mkF m 156 #[.val (.int p_1), .val (.int p_2), .val (.int v2), .val (.int (16 : Int32)), .val (.int (0 : Int32)), .val (.ref b87), .val (.int r99), .val (.int (2 : Int32)), .unset] [(.int (1 : Int32))])
          refine own_go (fun _ k => XS.istore X98.here hx rfl (hb hby at_156) rfl (l' := #[.val (.int p_1), .val (.int p_2), .val (.int v2), .val (.int (16 : Int32)), .val (.int (0 : Int32)), .val (.ref b87), .val (.int r99), .val (.int (2 : Int32)), .val (.int (1 : Int32))]) rfl k) ?_
          show own_Go _ _ _ _ T98 (mkF m 158 #[.val (.int p_1), .val (.int p_2), .val (.int v2), .val (.int (16 : Int32)), .val (.int (0 : Int32)), .val (.ref b87), .val (.int r99), .val (.int (2 : Int32)), .val (.int (1 : Int32))] [])
          refine own_go (fun _ k => XS.iload X98.here hx rfl (hb hby at_158) rfl k) ?_
          show own_Go _ _ _ _ T98 (mkF m 160 #[.val (.int p_1), .val (.int p_2), .val (.int v2), .val (.int (16 : Int32)), .val (.int (0 : Int32)), .val (.ref b87), .val (.int r99), .val (.int (2 : Int32)), .val (.int (1 : Int32))] [(.int r99)])
          refine own_go (fun _ k => XS.iload X98.here hx rfl (hb hby at_160) rfl k) ?_
          show own_Go _ _ _ _ T98 (mkF m 162 #[.val (.int p_1), .val (.int p_2), .val (.int v2), .val (.int (16 : Int32)), .val (.int (0 : Int32)), .val (.ref b87), .val (.int r99), .val (.int (2 : Int32)), .val (.int (1 : Int32))] [(.int (2 : Int32)), (.int r99)])
          have hc105 : r99 = (2 : Int32) := own_t0_14 r99 hr_r99 hc103 hc104
          refine own_go (fun _ k => XS.icmpNo X98.here hx rfl (hb hby at_162) rfl (Jvm.Free.XT.ii_ne_f hc105) k) ?_
          show own_Go _ _ _ _ T98 (mkF m 165 #[.val (.int p_1), .val (.int p_2), .val (.int v2), .val (.int (16 : Int32)), .val (.int (0 : Int32)), .val (.ref b87), .val (.int r99), .val (.int (2 : Int32)), .val (.int (1 : Int32))] [])
          refine own_go (fun _ k => XS.iload X98.here hx rfl (hb hby at_165) rfl k) ?_
          show own_Go _ _ _ _ T98 (mkF m 167 #[.val (.int p_1), .val (.int p_2), .val (.int v2), .val (.int (16 : Int32)), .val (.int (0 : Int32)), .val (.ref b87), .val (.int r99), .val (.int (2 : Int32)), .val (.int (1 : Int32))] [(.int (1 : Int32))])
          have hc106 : ¬ ((1 : Int32) = 0) := by decide
          refine own_go (fun _ k => XS.ifNo X98.here hx rfl (hb hby at_167) rfl (Jvm.Free.XT.i0_eq_f hc106) k) ?_
          show own_Go _ _ _ _ T98 (mkF m 170 #[.val (.int p_1), .val (.int p_2), .val (.int v2), .val (.int (16 : Int32)), .val (.int (0 : Int32)), .val (.ref b87), .val (.int r99), .val (.int (2 : Int32)), .val (.int (1 : Int32))] [])
          refine own_go (fun _ k => XS.iconst X98.here hx rfl (hb hby at_170) k) ?_
          show own_Go _ _ _ _ T98 (mkF m 171 #[.val (.int p_1), .val (.int p_2), .val (.int v2), .val (.int (16 : Int32)), .val (.int (0 : Int32)), .val (.ref b87), .val (.int r99), .val (.int (2 : Int32)), .val (.int (1 : Int32))] [(.int (1 : Int32))])
          refine own_go (fun _ k => XS.goto X98.here hx rfl (pc0 := 171) (pc' := 175) rfl (hb hby at_171) (by decide) (by decide) k) ?_
          show own_Go _ _ _ _ T98 (mkF m 175 #[.val (.int p_1), .val (.int p_2), .val (.int v2), .val (.int (16 : Int32)), .val (.int (0 : Int32)), .val (.ref b87), .val (.int r99), .val (.int (2 : Int32)), .val (.int (1 : Int32))] [(.int (1 : Int32))])
          obtain ⟨fs, hr, hrun, hended, hW, hsame⟩ := X98.leave (v := some (.int (1 : Int32))) (fun h => by rw [Bd.returns] at h; cases h)
          refine ⟨_, _, retOut X98 hx Bd.returns rfl (Or.inl ⟨rfl, Or.inr (Or.inl rfl), _, rfl⟩) (hb hby at_175) hr, hrun, hended, _, _, rfl, ?_, ⟨_, rfl⟩, hW, hsame.mono (by decide) (by decide)⟩
          show own_Q0 Z p_1 p_2 h0 n0 _ T98.heap _
          rw [e98]
          exact ⟨rfl, N98⟩
        · refine own_go (fun _ k => XS.ifNo X0.here hx rfl (hb hby at_55) rfl (Jvm.Free.XT.i0_eq_f hc86) k) ?_
          show own_Go _ _ _ _ s₁ (mkF m 58 #[.val (.int p_1), .val (.int p_2), .val (.int v2), .val (.int (16 : Int32)), .unset, .unset, .unset, .unset, .unset] [])
          refine own_go (fun _ k => XS.iconst X0.here hx rfl (hb hby at_58) k) ?_
          show own_Go _ _ _ _ s₁ (mkF m 59 #[.val (.int p_1), .val (.int p_2), .val (.int v2), .val (.int (16 : Int32)), .unset, .unset, .unset, .unset, .unset] [(.int (1 : Int32))])
          refine own_go (fun _ k => XS.goto X0.here hx rfl (pc0 := 59) (pc' := 63) rfl (hb hby at_59) (by decide) (by decide) k) ?_
          show own_Go _ _ _ _ s₁ (mkF m 63 #[.val (.int p_1), .val (.int p_2), .val (.int v2), .val (.int (16 : Int32)), .unset, .unset, .unset, .unset, .unset] [(.int (1 : Int32))])
          refine own_go (fun _ k => XS.istore X0.here hx rfl (hb hby at_63) rfl (l' := #[.val (.int p_1), .val (.int p_2), .val (.int v2), .val (.int (16 : Int32)), .val (.int (1 : Int32)), .unset, .unset, .unset, .unset]) rfl k) ?_
          show own_Go _ _ _ _ s₁ (mkF m 65 #[.val (.int p_1), .val (.int p_2), .val (.int v2), .val (.int (16 : Int32)), .val (.int (1 : Int32)), .unset, .unset, .unset, .unset] [])
          obtain ⟨T108, h108, X108, e108, E108, A108, D108, Y108, st108⟩ := newO X0 hx hZ hown (hw _ (List.mem_of_getElem? (i := 1) rfl)) (hw _ (List.mem_of_getElem? (i := 2) rfl)) (hw _ (List.mem_of_getElem? (i := 3) rfl)) e0 (g := (mkF m 65 #[.val (.int p_1), .val (.int p_2), .val (.int v2), .val (.int (16 : Int32)), .val (.int (1 : Int32)), .unset, .unset, .unset, .unset] [])) rfl (hb hby at_65) (by decide) (by decide)
          obtain ⟨b108, g108⟩ : ∃ z, z = h0.size := ⟨_, rfl⟩
          rw [← g108] at A108 D108 Y108 st108
          have z109 := E108.1
          have lt_b108 := A108.lt
          have F_bits_b108 : Fld Z h108 b108 "com/example/tessera/tessera/IntType" "bits" "I" (.int (0 : Int32)) := D108 (Or.inr (hw _ (List.mem_of_getElem? (i := 16) rfl))) (ty := .int) (by decide)
          have F_signed_b108 : Fld Z h108 b108 "com/example/tessera/tessera/IntType" "signed" "Z" (.int (0 : Int32)) := D108 (Or.inr (hw _ (List.mem_of_getElem? (i := 18) rfl))) (ty := .boolean) (by decide)
          refine own_go (fun _ k => st108 _ k) ?_
          show own_Go _ _ _ _ T108 (mkF m 68 #[.val (.int p_1), .val (.int p_2), .val (.int v2), .val (.int (16 : Int32)), .val (.int (1 : Int32)), .unset, .unset, .unset, .unset] [(.ref b108)])
          refine own_go (fun _ k => XS.dup X108.here hx rfl (hb hby at_68) rfl rfl k) ?_
          show own_Go _ _ _ _ T108 (mkF m 69 #[.val (.int p_1), .val (.int p_2), .val (.int v2), .val (.int (16 : Int32)), .val (.int (1 : Int32)), .unset, .unset, .unset, .unset] [(.ref b108), (.ref b108)])
          refine own_go (fun _ k => XS.iloadN X108.here hx rfl (hb hby at_69) rfl k) ?_
          show own_Go _ _ _ _ T108 (mkF m 70 #[.val (.int p_1), .val (.int p_2), .val (.int v2), .val (.int (16 : Int32)), .val (.int (1 : Int32)), .unset, .unset, .unset, .unset] [(.int (16 : Int32)), (.ref b108), (.ref b108)])
          refine own_go (fun _ k => XS.iload X108.here hx rfl (hb hby at_70) rfl k) ?_
          show own_Go _ _ _ _ T108 (mkF m 72 #[.val (.int p_1), .val (.int p_2), .val (.int v2), .val (.int (16 : Int32)), .val (.int (1 : Int32)), .unset, .unset, .unset, .unset] [(.int (1 : Int32)), (.int (16 : Int32)), (.ref b108), (.ref b108)])
          obtain ⟨_, _, ⟨T110, L110, k110, n110⟩, -, X110, ⟨Lc110, hQ110, l110, y110, z110⟩, st110⟩ := X108.specialBack hx (y := (⟨"com/example/tessera/tessera/IntType", "<init>", "(IZ)V"⟩ : MethodName)) rfl hown (mvT hZ (hw _ (List.mem_of_getElem? (i := 4) rfl))) (mvT hZ (hw _ (List.mem_of_getElem? (i := 5) rfl))) (mvT hZ (hw _ (List.mem_of_getElem? (i := 6) rfl))) (by decide) (backOf (W := 1) (own_rm1 l Z a0 hw [] b108 (16 : Int32) (1 : Int32) (0 : Int32) (0 : Int32) h108 n0 (by omega) (show (16 : Int32) = 1 ∨ (16 : Int32) = 8 ∨ (16 : Int32) = 16 ∨ (16 : Int32) = 32 ∨ (16 : Int32) = 64 by first | assumption | omega | decide) A108 F_bits_b108 F_signed_b108 (by omega)) hZ (hw _ (List.mem_of_getElem? (i := 6) rfl)) (hw _ (List.mem_of_getElem? (i := 3) rfl)) (by decide) (by decide)) (g := (mkF m 72 #[.val (.int p_1), .val (.int p_2), .val (.int v2), .val (.int (16 : Int32)), .val (.int (1 : Int32)), .unset, .unset, .unset, .unset] [(.int (1 : Int32)), (.int (16 : Int32)), (.ref b108), (.ref b108)])) rfl (by rw [hml]; rfl) (Steps.refl _) (a := b108) (argsL := [(.int (16 : Int32)), (.int (1 : Int32))]) (rest := [(.ref b108)]) (lenOf own_pd1 rfl) rfl (by show 2 * 0 + _ ≤ _; exact Nat.le_of_eq rfl) (hb hby at_72) (fun _ _ => ⟨rfl, e108, (by decide : 1 + 0 ≤ _), (by decide : 2 + 0 ≤ _)⟩)
          dsimp only [Pt.U, Pt.locs, Pt.cells, Pt.slots] at X110 l110 y110 z110 st110 hQ110
          subst l110 y110 z110
          obtain ⟨rfl, N110q, K110q, f111, f112, f113⟩ := hQ110
          have N110 := Fr.app N0 N110q
          have z114 := K110q.1
          have z115 := f111.lt
          have z116 := f112.lt
          obtain ⟨v117, hdv117⟩ : ∃ z : Int32, z = (nar .boolean (1 : Int32)) := ⟨_, rfl⟩
          rw [← hdv117] at f113
          have z118 := f113.lt
          refine own_go (fun _ k => st110.trans k) ?_
          show own_Go _ _ _ _ T110 (mkF m 75 #[.val (.int p_1), .val (.int p_2), .val (.int v2), .val (.int (16 : Int32)), .val (.int (1 : Int32)), .unset, .unset, .unset, .unset] [(.ref b108)])
          refine own_go (fun _ k => XS.astore X110.here hx rfl (hb hby at_75) rfl rfl (l' := #[.val (.int p_1), .val (.int p_2), .val (.int v2), .val (.int (16 : Int32)), .val (.int (1 : Int32)), .val (.ref b108), .unset, .unset, .unset]) rfl k) ?_
          show own_Go _ _ _ _ T110 (mkF m 77 #[.val (.int p_1), .val (.int p_2), .val (.int v2), .val (.int (16 : Int32)), .val (.int (1 : Int32)), .val (.ref b108), .unset, .unset, .unset] [])
          refine own_go (fun _ k => XS.aload X110.here hx rfl (hb hby at_77) rfl rfl k) ?_
          show own_Go _ _ _ _ T110 (mkF m 79 #[.val (.int p_1), .val (.int p_2), .val (.int v2), .val (.int (16 : Int32)), .val (.int (1 : Int32)), .val (.ref b108), .unset, .unset, .unset] [(.ref b108)])
          obtain ⟨cq119, kq119, q119a, q119b, q119c⟩ := isOf hZ rfl f111
          obtain ⟨_, _, ⟨T119, L119, k119, n119⟩, -, X119, ⟨Lc119, hQ119, l119, y119, z119⟩, st119⟩ := X110.virtualBack hx (y := (⟨"com/example/tessera/tessera/IntType", "fixedSize", "()I"⟩ : MethodName)) (z := (⟨"com/example/tessera/tessera/IntType", "fixedSize", "()I"⟩ : MethodName)) hown (mvT hZ (hw _ (List.mem_of_getElem? (i := 19) rfl))) (mvT hZ (hw _ (List.mem_of_getElem? (i := 20) rfl))) (notFace_of_selects (args := #[]) (mvT hZ (hw _ (List.mem_of_getElem? (i := 22) rfl)))) (mvT hZ (hw _ (List.mem_of_getElem? (i := 22) rfl))) (mvT hZ (hw _ (List.mem_of_getElem? (i := 21) rfl))) (by decide) (backOf (W := 0) (own_rm4 l Z a0 hw [] b108 (16 : Int32) T110.heap n0 (by omega) f112) hZ (hw _ (List.mem_of_getElem? (i := 23) rfl)) (hw _ (List.mem_of_getElem? (i := 3) rfl)) (by decide) (by decide)) q119a q119c (g := (mkF m 79 #[.val (.int p_1), .val (.int p_2), .val (.int v2), .val (.int (16 : Int32)), .val (.int (1 : Int32)), .val (.ref b108), .unset, .unset, .unset] [(.ref b108)])) rfl (by rw [hml]; rfl) (Steps.refl _) (argsL := []) (rest := []) (lenOf own_pd2 rfl) rfl (by show 2 * 0 + _ ≤ _; exact Nat.le_of_eq rfl) (hb hby at_79) (fun _ _ => ⟨rfl, rfl, (by decide : 1 + 0 ≤ _), (by decide : 2 + 0 ≤ _)⟩)
          dsimp only [Pt.U, Pt.locs, Pt.cells, Pt.slots] at X119 l119 y119 z119 st119 hQ119
          subst l119 y119 z119
          obtain ⟨r120, rfl, N119q, hr_r120, e119⟩ := hQ119
          have N119 := Fr.app N110 N119q
          refine own_go (fun _ k => st119.trans k) ?_
          show own_Go _ _ _ _ T119 (mkF m 82 #[.val (.int p_1), .val (.int p_2), .val (.int v2), .val (.int (16 : Int32)), .val (.int (1 : Int32)), .val (.ref b108), .unset, .unset, .unset] [(.int r120)])
          refine own_go (fun _ k => XS.istore X119.here hx rfl (hb hby at_82) rfl (l' := #[.val (.int p_1), .val (.int p_2), .val (.int v2), .val (.int (16 : Int32)), .val (.int (1 : Int32)), .val (.ref b108), .val (.int r120), .unset, .unset]) rfl k) ?_
          show own_Go _ _ _ _ T119 (mkF m 84 #[.val (.int p_1), .val (.int p_2), .val (.int v2), .val (.int (16 : Int32)), .val (.int (1 : Int32)), .val (.ref b108), .val (.int r120), .unset, .unset] [])
          refine own_go (fun _ k => XS.iloadN X119.here hx rfl (hb hby at_84) rfl k) ?_
          show own_Go _ _ _ _ T119 (mkF m 85 #[.val (.int p_1), .val (.int p_2), .val (.int v2), .val (.int (16 : Int32)), .val (.int (1 : Int32)), .val (.ref b108), .val (.int r120), .unset, .unset] [(.int v2)])
          refine own_go (fun _ k => XS.ifYes X119.here hx rfl (pc0 := 85) (pc' := 94) rfl (hb hby at_85) rfl (Jvm.Free.XT.i0_ne_t hc3) (by decide) (by decide) k) ?_
          show own_Go _ _ _ _ T119 (mkF m 94 #[.val (.int p_1), .val (.int p_2), .val (.int v2), .val (.int (16 : Int32)), .val (.int (1 : Int32)), .val (.ref b108), .val (.int r120), .unset, .unset] [])
          refine own_go (fun _ k => XS.iloadN X119.here hx rfl (hb hby at_94) rfl k) ?_
          show own_Go _ _ _ _ T119 (mkF m 95 #[.val (.int p_1), .val (.int p_2), .val (.int v2), .val (.int (16 : Int32)), .val (.int (1 : Int32)), .val (.ref b108), .val (.int r120), .unset, .unset] [(.int v2)])
          refine own_go (fun _ k => XS.iconst X119.here hx rfl (hb hby at_95) k) ?_
          show own_Go _ _ _ _ T119 (mkF m 96 #[.val (.int p_1), .val (.int p_2), .val (.int v2), .val (.int (16 : Int32)), .val (.int (1 : Int32)), .val (.ref b108), .val (.int r120), .unset, .unset] [(.int (1 : Int32)), (.int v2)])
          refine own_go (fun _ k => XS.icmpYes X119.here hx rfl (pc0 := 96) (pc' := 105) rfl (hb hby at_96) rfl (Jvm.Free.XT.ii_ne_t hc43) (by decide) (by decide) k) ?_
          show own_Go _ _ _ _ T119 (mkF m 105 #[.val (.int p_1), .val (.int p_2), .val (.int v2), .val (.int (16 : Int32)), .val (.int (1 : Int32)), .val (.ref b108), .val (.int r120), .unset, .unset] [])
          refine own_go (fun _ k => XS.iloadN X119.here hx rfl (hb hby at_105) rfl k) ?_
          show own_Go _ _ _ _ T119 (mkF m 106 #[.val (.int p_1), .val (.int p_2), .val (.int v2), .val (.int (16 : Int32)), .val (.int (1 : Int32)), .val (.ref b108), .val (.int r120), .unset, .unset] [(.int v2)])
          refine own_go (fun _ k => XS.iconst X119.here hx rfl (hb hby at_106) k) ?_
          show own_Go _ _ _ _ T119 (mkF m 107 #[.val (.int p_1), .val (.int p_2), .val (.int v2), .val (.int (16 : Int32)), .val (.int (1 : Int32)), .val (.ref b108), .val (.int r120), .unset, .unset] [(.int (2 : Int32)), (.int v2)])
          refine own_go (fun _ k => XS.icmpNo X119.here hx rfl (hb hby at_107) rfl (Jvm.Free.XT.ii_ne_f hc85) k) ?_
          show own_Go _ _ _ _ T119 (mkF m 110 #[.val (.int p_1), .val (.int p_2), .val (.int v2), .val (.int (16 : Int32)), .val (.int (1 : Int32)), .val (.ref b108), .val (.int r120), .unset, .unset] [])
          refine own_go (fun _ k => XS.iconst X119.here hx rfl (hb hby at_110) k) ?_
          show own_Go _ _ _ _ T119 (mkF m 111 #[.val (.int p_1), .val (.int p_2), .val (.int v2), .val (.int (16 : Int32)), .val (.int (1 : Int32)), .val (.ref b108), .val (.int r120), .unset, .unset] [(.int (2 : Int32))])
          refine own_go (fun _ k => XS.istore X119.here hx rfl (hb hby at_111) rfl (l' := #[.val (.int p_1), .val (.int p_2), .val (.int v2), .val (.int (16 : Int32)), .val (.int (1 : Int32)), .val (.ref b108), .val (.int r120), .val (.int (2 : Int32)), .unset]) rfl k) ?_
          show own_Go _ _ _ _ T119 (mkF m 113 #[.val (.int p_1), .val (.int p_2), .val (.int v2), .val (.int (16 : Int32)), .val (.int (1 : Int32)), .val (.ref b108), .val (.int r120), .val (.int (2 : Int32)), .unset] [])
          refine own_go (fun _ k => XS.goto X119.here hx rfl (pc0 := 113) (pc' := 131) rfl (hb hby at_113) (by decide) (by decide) k) ?_
          show own_Go _ _ _ _ T119 (mkF m 131 #[.val (.int p_1), .val (.int p_2), .val (.int v2), .val (.int (16 : Int32)), .val (.int (1 : Int32)), .val (.ref b108), .val (.int r120), .val (.int (2 : Int32)), .unset] [])
          refine own_go (fun _ k => XS.bipush X119.here hx rfl (hb hby at_131) k) ?_
          show own_Go _ _ _ _ T119 (mkF m 133 #[.val (.int p_1), .val (.int p_2), .val (.int v2), .val (.int (16 : Int32)), .val (.int (1 : Int32)), .val (.ref b108), .val (.int r120), .val (.int (2 : Int32)), .unset] [(.int (8 : Int32))])
          refine own_go (fun _ k => XS.iload X119.here hx rfl (hb hby at_133) rfl k) ?_
          show own_Go _ _ _ _ T119 (mkF m 135 #[.val (.int p_1), .val (.int p_2), .val (.int v2), .val (.int (16 : Int32)), .val (.int (1 : Int32)), .val (.ref b108), .val (.int r120), .val (.int (2 : Int32)), .unset] [(.int r120), (.int (8 : Int32))])
          refine own_go (fun _ k => XS.imul X119.here hx rfl (hb hby at_135) rfl k) ?_
          show own_Go _ _ _ _ T119 (mkF m 136 #[.val (.int p_1), .val (.int p_2), .val (.int v2), .val (.int (16 : Int32)), .val (.int (1 : Int32)), .val (.ref b108), .val (.int r120), .val (.int (2 : Int32)), .unset] [(.int ((8 : Int32) * r120))])
          refine own_go (fun _ k => XS.iloadN X119.here hx rfl (hb hby at_136) rfl k) ?_
          show own_Go _ _ _ _ T119 (mkF m 137 #[.val (.int p_1), .val (.int p_2), .val (.int v2), .val (.int (16 : Int32)), .val (.int (1 : Int32)), .val (.ref b108), .val (.int r120), .val (.int (2 : Int32)), .unset] [(.int (16 : Int32)), (.int ((8 : Int32) * r120))])
          have hc124 : ¬ (((8 : Int32) * r120) < (16 : Int32)) := own_t0_15 r120 hr_r120
          refine own_go (fun _ k => XS.icmpNo X119.here hx rfl (hb hby at_137) rfl (Jvm.Free.XT.ii_lt_f hc124) k) ?_
          show own_Go _ _ _ _ T119 (mkF m 140 #[.val (.int p_1), .val (.int p_2), .val (.int v2), .val (.int (16 : Int32)), .val (.int (1 : Int32)), .val (.ref b108), .val (.int r120), .val (.int (2 : Int32)), .unset] [])
          refine own_go (fun _ k => XS.bipush X119.here hx rfl (hb hby at_140) k) ?_
          show own_Go _ _ _ _ T119 (mkF m 142 #[.val (.int p_1), .val (.int p_2), .val (.int v2), .val (.int (16 : Int32)), .val (.int (1 : Int32)), .val (.ref b108), .val (.int r120), .val (.int (2 : Int32)), .unset] [(.int (8 : Int32))])
          refine own_go (fun _ k => XS.iload X119.here hx rfl (hb hby at_142) rfl k) ?_
          show own_Go _ _ _ _ T119 (mkF m 144 #[.val (.int p_1), .val (.int p_2), .val (.int v2), .val (.int (16 : Int32)), .val (.int (1 : Int32)), .val (.ref b108), .val (.int r120), .val (.int (2 : Int32)), .unset] [(.int r120), (.int (8 : Int32))])
          refine own_go (fun _ k => XS.iconst X119.here hx rfl (hb hby at_144) k) ?_
          show own_Go _ _ _ _ T119 (mkF m 145 #[.val (.int p_1), .val (.int p_2), .val (.int v2), .val (.int (16 : Int32)), .val (.int (1 : Int32)), .val (.ref b108), .val (.int r120), .val (.int (2 : Int32)), .unset] [(.int (1 : Int32)), (.int r120), (.int (8 : Int32))])
          refine own_go (fun _ k => XS.isub X119.here hx rfl (hb hby at_145) rfl k) ?_
          show own_Go _ _ _ _ T119 (mkF m 146 #[.val (.int p_1), .val (.int p_2), .val (.int v2), .val (.int (16 : Int32)), .val (.int (1 : Int32)), .val (.ref b108), .val (.int r120), .val (.int (2 : Int32)), .unset] [(.int (r120 - (1 : Int32))), (.int (8 : Int32))])
          refine own_go (fun _ k => XS.imul X119.here hx rfl (hb hby at_146) rfl k) ?_
          show own_Go _ _ _ _ T119 (mkF m 147 #[.val (.int p_1), .val (.int p_2), .val (.int v2), .val (.int (16 : Int32)), .val (.int (1 : Int32)), .val (.ref b108), .val (.int r120), .val (.int (2 : Int32)), .unset] [(.int ((8 : Int32) * (r120 - (1 : Int32))))])
          refine own_go (fun _ k => XS.iloadN X119.here hx rfl (hb hby at_147) rfl k) ?_
          show own_Go _ _ _ _ T119 (mkF m 148 #[.val (.int p_1), .val (.int p_2), .val (.int v2), .val (.int (16 : Int32)), .val (.int (1 : Int32)), .val (.ref b108), .val (.int r120), .val (.int (2 : Int32)), .unset] [(.int (16 : Int32)), (.int ((8 : Int32) * (r120 - (1 : Int32))))])
          have hc125 : ((8 : Int32) * (r120 - (1 : Int32))) < (16 : Int32) := own_t0_16 r120 hr_r120 hc124
          refine own_go (fun _ k => XS.icmpNo X119.here hx rfl (hb hby at_148) rfl (Jvm.Free.XT.ii_ge_f hc125) k) ?_
          show own_Go _ _ _ _ T119 (mkF m 151 #[.val (.int p_1), .val (.int p_2), .val (.int v2), .val (.int (16 : Int32)), .val (.int (1 : Int32)), .val (.ref b108), .val (.int r120), .val (.int (2 : Int32)), .unset] [])
          refine own_go (fun _ k => XS.iconst X119.here hx rfl (hb hby at_151) k) ?_
          show own_Go _ _ _ _ T119 (mkF m 152 #[.val (.int p_1), .val (.int p_2), .val (.int v2), .val (.int (16 : Int32)), .val (.int (1 : Int32)), .val (.ref b108), .val (.int r120), .val (.int (2 : Int32)), .unset] [(.int (1 : Int32))])
          refine own_go (fun _ k => XS.goto X119.here hx rfl (pc0 := 152) (pc' := 156) rfl (hb hby at_152) (by decide) (by decide) k) ?_
          show own_Go _ _ _ _ T119 (mkF m 156 #[.val (.int p_1), .val (.int p_2), .val (.int v2), .val (.int (16 : Int32)), .val (.int (1 : Int32)), .val (.ref b108), .val (.int r120), .val (.int (2 : Int32)), .unset] [(.int (1 : Int32))])
          refine own_go (fun _ k => XS.istore X119.here hx rfl (hb hby at_156) rfl (l' := #[.val (.int p_1), .val (.int p_2), .val (.int v2), .val (.int (16 : Int32)), .val (.int (1 : Int32)), .val (.ref b108), .val (.int r120), .val (.int (2 : Int32)), .val (.int (1 : Int32))]) rfl k) ?_
          show own_Go _ _ _ _ T119 (mkF m 158 #[.val (.int p_1), .val (.int p_2), .val (.int v2), .val (.int (16 : Int32)), .val (.int (1 : Int32)), .val (.ref b108), .val (.int r120), .val (.int (2 : Int32)), .val (.int (1 : Int32))] [])
          refine own_go (fun _ k => XS.iload X119.here hx rfl (hb hby at_158) rfl k) ?_
          show own_Go _ _ _ _ T119 (mkF m 160 #[.val (.int p_1), .val (.int p_2), .val (.int v2), .val (.int (16 : Int32)), .val (.int (1 : Int32)), .val (.ref b108), .val (.int r120), .val (.int (2 : Int32)), .val (.int (1 : Int32))] [(.int r120)])
          refine own_go (fun _ k => XS.iload X119.here hx rfl (hb hby at_160) rfl k) ?_
          show own_Go _ _ _ _ T119 (mkF m 162 #[.val (.int p_1), .val (.int p_2), .val (.int v2), .val (.int (16 : Int32)), .val (.int (1 : Int32)), .val (.ref b108), .val (.int r120), .val (.int (2 : Int32)), .val (.int (1 : Int32))] [(.int (2 : Int32)), (.int r120)])
          have hc126 : r120 = (2 : Int32) := own_t0_17 r120 hr_r120 hc124 hc125
          refine own_go (fun _ k => XS.icmpNo X119.here hx rfl (hb hby at_162) rfl (Jvm.Free.XT.ii_ne_f hc126) k) ?_
          show own_Go _ _ _ _ T119 (mkF m 165 #[.val (.int p_1), .val (.int p_2), .val (.int v2), .val (.int (16 : Int32)), .val (.int (1 : Int32)), .val (.ref b108), .val (.int r120), .val (.int (2 : Int32)), .val (.int (1 : Int32))] [])
          refine own_go (fun _ k => XS.iload X119.here hx rfl (hb hby at_165) rfl k) ?_
          show own_Go _ _ _ _ T119 (mkF m 167 #[.val (.int p_1), .val (.int p_2), .val (.int v2), .val (.int (16 : Int32)), .val (.int (1 : Int32)), .val (.ref b108), .val (.int r120), .val (.int (2 : Int32)), .val (.int (1 : Int32))] [(.int (1 : Int32))])
          have hc127 : ¬ ((1 : Int32) = 0) := by decide
          refine own_go (fun _ k => XS.ifNo X119.here hx rfl (hb hby at_167) rfl (Jvm.Free.XT.i0_eq_f hc127) k) ?_
          show own_Go _ _ _ _ T119 (mkF m 170 #[.val (.int p_1), .val (.int p_2), .val (.int v2), .val (.int (16 : Int32)), .val (.int (1 : Int32)), .val (.ref b108), .val (.int r120), .val (.int (2 : Int32)), .val (.int (1 : Int32))] [])
          refine own_go (fun _ k => XS.iconst X119.here hx rfl (hb hby at_170) k) ?_
          show own_Go _ _ _ _ T119 (mkF m 171 #[.val (.int p_1), .val (.int p_2), .val (.int v2), .val (.int (16 : Int32)), .val (.int (1 : Int32)), .val (.ref b108), .val (.int r120), .val (.int (2 : Int32)), .val (.int (1 : Int32))] [(.int (1 : Int32))])
          refine own_go (fun _ k => XS.goto X119.here hx rfl (pc0 := 171) (pc' := 175) rfl (hb hby at_171) (by decide) (by decide) k) ?_
          show own_Go _ _ _ _ T119 (mkF m 175 #[.val (.int p_1), .val (.int p_2), .val (.int v2), .val (.int (16 : Int32)), .val (.int (1 : Int32)), .val (.ref b108), .val (.int r120), .val (.int (2 : Int32)), .val (.int (1 : Int32))] [(.int (1 : Int32))])
          obtain ⟨fs, hr, hrun, hended, hW, hsame⟩ := X119.leave (v := some (.int (1 : Int32))) (fun h => by rw [Bd.returns] at h; cases h)
          refine ⟨_, _, retOut X119 hx Bd.returns rfl (Or.inl ⟨rfl, Or.inr (Or.inl rfl), _, rfl⟩) (hb hby at_175) hr, hrun, hended, _, _, rfl, ?_, ⟨_, rfl⟩, hW, hsame.mono (by decide) (by decide)⟩
          show own_Q0 Z p_1 p_2 h0 n0 _ T119.heap _
          rw [e119]
          exact ⟨rfl, N119⟩
      · refine own_go (fun _ k => XS.icmpYes X0.here hx rfl (pc0 := 29) (pc' := 38) rfl (hb hby at_29) rfl (Jvm.Free.XT.ii_ne_t hc85) (by decide) (by decide) k) ?_
        show own_Go _ _ _ _ s₁ (mkF m 38 #[.val (.int p_1), .val (.int p_2), .val (.int v2), .unset, .unset, .unset, .unset, .unset, .unset] [])
        refine own_go (fun _ k => XS.iloadN X0.here hx rfl (hb hby at_38) rfl k) ?_
        show own_Go _ _ _ _ s₁ (mkF m 39 #[.val (.int p_1), .val (.int p_2), .val (.int v2), .unset, .unset, .unset, .unset, .unset, .unset] [(.int v2)])
        refine own_go (fun _ k => XS.iconst X0.here hx rfl (hb hby at_39) k) ?_
        show own_Go _ _ _ _ s₁ (mkF m 40 #[.val (.int p_1), .val (.int p_2), .val (.int v2), .unset, .unset, .unset, .unset, .unset, .unset] [(.int (3 : Int32)), (.int v2)])
        by_cases hc129 : v2 = (3 : Int32)
        · refine own_go (fun _ k => XS.icmpNo X0.here hx rfl (hb hby at_40) rfl (Jvm.Free.XT.ii_ne_f hc129) k) ?_
          show own_Go _ _ _ _ s₁ (mkF m 43 #[.val (.int p_1), .val (.int p_2), .val (.int v2), .unset, .unset, .unset, .unset, .unset, .unset] [])
          refine own_go (fun _ k => XS.bipush X0.here hx rfl (hb hby at_43) k) ?_
          show own_Go _ _ _ _ s₁ (mkF m 45 #[.val (.int p_1), .val (.int p_2), .val (.int v2), .unset, .unset, .unset, .unset, .unset, .unset] [(.int (32 : Int32))])
          refine own_go (fun _ k => XS.istoreN X0.here hx rfl (hb hby at_45) rfl (l' := #[.val (.int p_1), .val (.int p_2), .val (.int v2), .val (.int (32 : Int32)), .unset, .unset, .unset, .unset, .unset]) rfl k) ?_
          show own_Go _ _ _ _ s₁ (mkF m 46 #[.val (.int p_1), .val (.int p_2), .val (.int v2), .val (.int (32 : Int32)), .unset, .unset, .unset, .unset, .unset] [])
          refine own_go (fun _ k => XS.goto X0.here hx rfl (pc0 := 46) (pc' := 52) rfl (hb hby at_46) (by decide) (by decide) k) ?_
          show own_Go _ _ _ _ s₁ (mkF m 52 #[.val (.int p_1), .val (.int p_2), .val (.int v2), .val (.int (32 : Int32)), .unset, .unset, .unset, .unset, .unset] [])
          refine own_go (fun _ k => XS.iloadN X0.here hx rfl (hb hby at_52) rfl k) ?_
          show own_Go _ _ _ _ s₁ (mkF m 53 #[.val (.int p_1), .val (.int p_2), .val (.int v2), .val (.int (32 : Int32)), .unset, .unset, .unset, .unset, .unset] [(.int p_2)])
          refine own_go (fun _ k => XS.iconst X0.here hx rfl (hb hby at_53) k) ?_
          show own_Go _ _ _ _ s₁ (mkF m 54 #[.val (.int p_1), .val (.int p_2), .val (.int v2), .val (.int (32 : Int32)), .unset, .unset, .unset, .unset, .unset] [(.int (1 : Int32)), (.int p_2)])
          refine own_go (fun _ k => XS.iand X0.here hx rfl (hb hby at_54) rfl k) ?_
          show own_Go _ _ _ _ s₁ (mkF m 55 #[.val (.int p_1), .val (.int p_2), .val (.int v2), .val (.int (32 : Int32)), .unset, .unset, .unset, .unset, .unset] [(.int (p_2 &&& (1 : Int32)))])
          by_cases hc130 : (p_2 &&& (1 : Int32)) = 0
          · refine own_go (fun _ k => XS.ifYes X0.here hx rfl (pc0 := 55) (pc' := 62) rfl (hb hby at_55) rfl (Jvm.Free.XT.i0_eq_t hc130) (by decide) (by decide) k) ?_
            show own_Go _ _ _ _ s₁ (mkF m 62 #[.val (.int p_1), .val (.int p_2), .val (.int v2), .val (.int (32 : Int32)), .unset, .unset, .unset, .unset, .unset] [])
            refine own_go (fun _ k => XS.iconst X0.here hx rfl (hb hby at_62) k) ?_
            show own_Go _ _ _ _ s₁ (mkF m 63 #[.val (.int p_1), .val (.int p_2), .val (.int v2), .val (.int (32 : Int32)), .unset, .unset, .unset, .unset, .unset] [(.int (0 : Int32))])
            refine own_go (fun _ k => XS.istore X0.here hx rfl (hb hby at_63) rfl (l' := #[.val (.int p_1), .val (.int p_2), .val (.int v2), .val (.int (32 : Int32)), .val (.int (0 : Int32)), .unset, .unset, .unset, .unset]) rfl k) ?_
            show own_Go _ _ _ _ s₁ (mkF m 65 #[.val (.int p_1), .val (.int p_2), .val (.int v2), .val (.int (32 : Int32)), .val (.int (0 : Int32)), .unset, .unset, .unset, .unset] [])
            obtain ⟨T131, h131, X131, e131, E131, A131, D131, Y131, st131⟩ := newO X0 hx hZ hown (hw _ (List.mem_of_getElem? (i := 1) rfl)) (hw _ (List.mem_of_getElem? (i := 2) rfl)) (hw _ (List.mem_of_getElem? (i := 3) rfl)) e0 (g := (mkF m 65 #[.val (.int p_1), .val (.int p_2), .val (.int v2), .val (.int (32 : Int32)), .val (.int (0 : Int32)), .unset, .unset, .unset, .unset] [])) rfl (hb hby at_65) (by decide) (by decide)
            obtain ⟨b131, g131⟩ : ∃ z, z = h0.size := ⟨_, rfl⟩
            rw [← g131] at A131 D131 Y131 st131
            have z132 := E131.1
            have lt_b131 := A131.lt
            have F_bits_b131 : Fld Z h131 b131 "com/example/tessera/tessera/IntType" "bits" "I" (.int (0 : Int32)) := D131 (Or.inr (hw _ (List.mem_of_getElem? (i := 16) rfl))) (ty := .int) (by decide)
            have F_signed_b131 : Fld Z h131 b131 "com/example/tessera/tessera/IntType" "signed" "Z" (.int (0 : Int32)) := D131 (Or.inr (hw _ (List.mem_of_getElem? (i := 18) rfl))) (ty := .boolean) (by decide)
            refine own_go (fun _ k => st131 _ k) ?_
            show own_Go _ _ _ _ T131 (mkF m 68 #[.val (.int p_1), .val (.int p_2), .val (.int v2), .val (.int (32 : Int32)), .val (.int (0 : Int32)), .unset, .unset, .unset, .unset] [(.ref b131)])
            refine own_go (fun _ k => XS.dup X131.here hx rfl (hb hby at_68) rfl rfl k) ?_
            show own_Go _ _ _ _ T131 (mkF m 69 #[.val (.int p_1), .val (.int p_2), .val (.int v2), .val (.int (32 : Int32)), .val (.int (0 : Int32)), .unset, .unset, .unset, .unset] [(.ref b131), (.ref b131)])
            refine own_go (fun _ k => XS.iloadN X131.here hx rfl (hb hby at_69) rfl k) ?_
            show own_Go _ _ _ _ T131 (mkF m 70 #[.val (.int p_1), .val (.int p_2), .val (.int v2), .val (.int (32 : Int32)), .val (.int (0 : Int32)), .unset, .unset, .unset, .unset] [(.int (32 : Int32)), (.ref b131), (.ref b131)])
            refine own_go (fun _ k => XS.iload X131.here hx rfl (hb hby at_70) rfl k) ?_
            show own_Go _ _ _ _ T131 (mkF m 72 #[.val (.int p_1), .val (.int p_2), .val (.int v2), .val (.int (32 : Int32)), .val (.int (0 : Int32)), .unset, .unset, .unset, .unset] [(.int (0 : Int32)), (.int (32 : Int32)), (.ref b131), (.ref b131)])
            obtain ⟨_, _, ⟨T133, L133, k133, n133⟩, -, X133, ⟨Lc133, hQ133, l133, y133, z133⟩, st133⟩ := X131.specialBack hx (y := (⟨"com/example/tessera/tessera/IntType", "<init>", "(IZ)V"⟩ : MethodName)) rfl hown (mvT hZ (hw _ (List.mem_of_getElem? (i := 4) rfl))) (mvT hZ (hw _ (List.mem_of_getElem? (i := 5) rfl))) (mvT hZ (hw _ (List.mem_of_getElem? (i := 6) rfl))) (by decide) (backOf (W := 1) (own_rm1 l Z a0 hw [] b131 (32 : Int32) (0 : Int32) (0 : Int32) (0 : Int32) h131 n0 (by omega) (show (32 : Int32) = 1 ∨ (32 : Int32) = 8 ∨ (32 : Int32) = 16 ∨ (32 : Int32) = 32 ∨ (32 : Int32) = 64 by first | assumption | omega | decide) A131 F_bits_b131 F_signed_b131 (by omega)) hZ (hw _ (List.mem_of_getElem? (i := 6) rfl)) (hw _ (List.mem_of_getElem? (i := 3) rfl)) (by decide) (by decide)) (g := (mkF m 72 #[.val (.int p_1), .val (.int p_2), .val (.int v2), .val (.int (32 : Int32)), .val (.int (0 : Int32)), .unset, .unset, .unset, .unset] [(.int (0 : Int32)), (.int (32 : Int32)), (.ref b131), (.ref b131)])) rfl (by rw [hml]; rfl) (Steps.refl _) (a := b131) (argsL := [(.int (32 : Int32)), (.int (0 : Int32))]) (rest := [(.ref b131)]) (lenOf own_pd1 rfl) rfl (by show 2 * 0 + _ ≤ _; exact Nat.le_of_eq rfl) (hb hby at_72) (fun _ _ => ⟨rfl, e131, (by decide : 1 + 0 ≤ _), (by decide : 2 + 0 ≤ _)⟩)
            dsimp only [Pt.U, Pt.locs, Pt.cells, Pt.slots] at X133 l133 y133 z133 st133 hQ133
            subst l133 y133 z133
            obtain ⟨rfl, N133q, K133q, f134, f135, f136⟩ := hQ133
            have N133 := Fr.app N0 N133q
            have z137 := K133q.1
            have z138 := f134.lt
            have z139 := f135.lt
            obtain ⟨v140, hdv140⟩ : ∃ z : Int32, z = (nar .boolean (0 : Int32)) := ⟨_, rfl⟩
            rw [← hdv140] at f136
            have z141 := f136.lt
            refine own_go (fun _ k => st133.trans k) ?_
            show own_Go _ _ _ _ T133 (mkF m 75 #[.val (.int p_1), .val (.int p_2), .val (.int v2), .val (.int (32 : Int32)), .val (.int (0 : Int32)), .unset, .unset, .unset, .unset] [(.ref b131)])
            refine own_go (fun _ k => XS.astore X133.here hx rfl (hb hby at_75) rfl rfl (l' := #[.val (.int p_1), .val (.int p_2), .val (.int v2), .val (.int (32 : Int32)), .val (.int (0 : Int32)), .val (.ref b131), .unset, .unset, .unset]) rfl k) ?_
            show own_Go _ _ _ _ T133 (mkF m 77 #[.val (.int p_1), .val (.int p_2), .val (.int v2), .val (.int (32 : Int32)), .val (.int (0 : Int32)), .val (.ref b131), .unset, .unset, .unset] [])
            refine own_go (fun _ k => XS.aload X133.here hx rfl (hb hby at_77) rfl rfl k) ?_
            show own_Go _ _ _ _ T133 (mkF m 79 #[.val (.int p_1), .val (.int p_2), .val (.int v2), .val (.int (32 : Int32)), .val (.int (0 : Int32)), .val (.ref b131), .unset, .unset, .unset] [(.ref b131)])
            obtain ⟨cq142, kq142, q142a, q142b, q142c⟩ := isOf hZ rfl f134
            obtain ⟨_, _, ⟨T142, L142, k142, n142⟩, -, X142, ⟨Lc142, hQ142, l142, y142, z142⟩, st142⟩ := X133.virtualBack hx (y := (⟨"com/example/tessera/tessera/IntType", "fixedSize", "()I"⟩ : MethodName)) (z := (⟨"com/example/tessera/tessera/IntType", "fixedSize", "()I"⟩ : MethodName)) hown (mvT hZ (hw _ (List.mem_of_getElem? (i := 19) rfl))) (mvT hZ (hw _ (List.mem_of_getElem? (i := 20) rfl))) (notFace_of_selects (args := #[]) (mvT hZ (hw _ (List.mem_of_getElem? (i := 22) rfl)))) (mvT hZ (hw _ (List.mem_of_getElem? (i := 22) rfl))) (mvT hZ (hw _ (List.mem_of_getElem? (i := 21) rfl))) (by decide) (backOf (W := 0) (own_rm4 l Z a0 hw [] b131 (32 : Int32) T133.heap n0 (by omega) f135) hZ (hw _ (List.mem_of_getElem? (i := 23) rfl)) (hw _ (List.mem_of_getElem? (i := 3) rfl)) (by decide) (by decide)) q142a q142c (g := (mkF m 79 #[.val (.int p_1), .val (.int p_2), .val (.int v2), .val (.int (32 : Int32)), .val (.int (0 : Int32)), .val (.ref b131), .unset, .unset, .unset] [(.ref b131)])) rfl (by rw [hml]; rfl) (Steps.refl _) (argsL := []) (rest := []) (lenOf own_pd2 rfl) rfl (by show 2 * 0 + _ ≤ _; exact Nat.le_of_eq rfl) (hb hby at_79) (fun _ _ => ⟨rfl, rfl, (by decide : 1 + 0 ≤ _), (by decide : 2 + 0 ≤ _)⟩)
            dsimp only [Pt.U, Pt.locs, Pt.cells, Pt.slots] at X142 l142 y142 z142 st142 hQ142
            subst l142 y142 z142
            obtain ⟨r143, rfl, N142q, hr_r143, e142⟩ := hQ142
            have N142 := Fr.app N133 N142q
            refine own_go (fun _ k => st142.trans k) ?_
            show own_Go _ _ _ _ T142 (mkF m 82 #[.val (.int p_1), .val (.int p_2), .val (.int v2), .val (.int (32 : Int32)), .val (.int (0 : Int32)), .val (.ref b131), .unset, .unset, .unset] [(.int r143)])
            refine own_go (fun _ k => XS.istore X142.here hx rfl (hb hby at_82) rfl (l' := #[.val (.int p_1), .val (.int p_2), .val (.int v2), .val (.int (32 : Int32)), .val (.int (0 : Int32)), .val (.ref b131), .val (.int r143), .unset, .unset]) rfl k) ?_
            show own_Go _ _ _ _ T142 (mkF m 84 #[.val (.int p_1), .val (.int p_2), .val (.int v2), .val (.int (32 : Int32)), .val (.int (0 : Int32)), .val (.ref b131), .val (.int r143), .unset, .unset] [])
            refine own_go (fun _ k => XS.iloadN X142.here hx rfl (hb hby at_84) rfl k) ?_
            show own_Go _ _ _ _ T142 (mkF m 85 #[.val (.int p_1), .val (.int p_2), .val (.int v2), .val (.int (32 : Int32)), .val (.int (0 : Int32)), .val (.ref b131), .val (.int r143), .unset, .unset] [(.int v2)])
            refine own_go (fun _ k => XS.ifYes X142.here hx rfl (pc0 := 85) (pc' := 94) rfl (hb hby at_85) rfl (Jvm.Free.XT.i0_ne_t hc3) (by decide) (by decide) k) ?_
            show own_Go _ _ _ _ T142 (mkF m 94 #[.val (.int p_1), .val (.int p_2), .val (.int v2), .val (.int (32 : Int32)), .val (.int (0 : Int32)), .val (.ref b131), .val (.int r143), .unset, .unset] [])
            refine own_go (fun _ k => XS.iloadN X142.here hx rfl (hb hby at_94) rfl k) ?_
            show own_Go _ _ _ _ T142 (mkF m 95 #[.val (.int p_1), .val (.int p_2), .val (.int v2), .val (.int (32 : Int32)), .val (.int (0 : Int32)), .val (.ref b131), .val (.int r143), .unset, .unset] [(.int v2)])
            refine own_go (fun _ k => XS.iconst X142.here hx rfl (hb hby at_95) k) ?_
            show own_Go _ _ _ _ T142 (mkF m 96 #[.val (.int p_1), .val (.int p_2), .val (.int v2), .val (.int (32 : Int32)), .val (.int (0 : Int32)), .val (.ref b131), .val (.int r143), .unset, .unset] [(.int (1 : Int32)), (.int v2)])
            refine own_go (fun _ k => XS.icmpYes X142.here hx rfl (pc0 := 96) (pc' := 105) rfl (hb hby at_96) rfl (Jvm.Free.XT.ii_ne_t hc43) (by decide) (by decide) k) ?_
            show own_Go _ _ _ _ T142 (mkF m 105 #[.val (.int p_1), .val (.int p_2), .val (.int v2), .val (.int (32 : Int32)), .val (.int (0 : Int32)), .val (.ref b131), .val (.int r143), .unset, .unset] [])
            refine own_go (fun _ k => XS.iloadN X142.here hx rfl (hb hby at_105) rfl k) ?_
            show own_Go _ _ _ _ T142 (mkF m 106 #[.val (.int p_1), .val (.int p_2), .val (.int v2), .val (.int (32 : Int32)), .val (.int (0 : Int32)), .val (.ref b131), .val (.int r143), .unset, .unset] [(.int v2)])
            refine own_go (fun _ k => XS.iconst X142.here hx rfl (hb hby at_106) k) ?_
            show own_Go _ _ _ _ T142 (mkF m 107 #[.val (.int p_1), .val (.int p_2), .val (.int v2), .val (.int (32 : Int32)), .val (.int (0 : Int32)), .val (.ref b131), .val (.int r143), .unset, .unset] [(.int (2 : Int32)), (.int v2)])
            refine own_go (fun _ k => XS.icmpYes X142.here hx rfl (pc0 := 107) (pc' := 116) rfl (hb hby at_107) rfl (Jvm.Free.XT.ii_ne_t hc85) (by decide) (by decide) k) ?_
            show own_Go _ _ _ _ T142 (mkF m 116 #[.val (.int p_1), .val (.int p_2), .val (.int v2), .val (.int (32 : Int32)), .val (.int (0 : Int32)), .val (.ref b131), .val (.int r143), .unset, .unset] [])
            refine own_go (fun _ k => XS.iloadN X142.here hx rfl (hb hby at_116) rfl k) ?_
            show own_Go _ _ _ _ T142 (mkF m 117 #[.val (.int p_1), .val (.int p_2), .val (.int v2), .val (.int (32 : Int32)), .val (.int (0 : Int32)), .val (.ref b131), .val (.int r143), .unset, .unset] [(.int v2)])
            refine own_go (fun _ k => XS.iconst X142.here hx rfl (hb hby at_117) k) ?_
            show own_Go _ _ _ _ T142 (mkF m 118 #[.val (.int p_1), .val (.int p_2), .val (.int v2), .val (.int (32 : Int32)), .val (.int (0 : Int32)), .val (.ref b131), .val (.int r143), .unset, .unset] [(.int (3 : Int32)), (.int v2)])
            refine own_go (fun _ k => XS.icmpNo X142.here hx rfl (hb hby at_118) rfl (Jvm.Free.XT.ii_ne_f hc129) k) ?_
            show own_Go _ _ _ _ T142 (mkF m 121 #[.val (.int p_1), .val (.int p_2), .val (.int v2), .val (.int (32 : Int32)), .val (.int (0 : Int32)), .val (.ref b131), .val (.int r143), .unset, .unset] [])
            refine own_go (fun _ k => XS.iconst X142.here hx rfl (hb hby at_121) k) ?_
            show own_Go _ _ _ _ T142 (mkF m 122 #[.val (.int p_1), .val (.int p_2), .val (.int v2), .val (.int (32 : Int32)), .val (.int (0 : Int32)), .val (.ref b131), .val (.int r143), .unset, .unset] [(.int (4 : Int32))])
            refine own_go (fun _ k => XS.istore X142.here hx rfl (hb hby at_122) rfl (l' := #[.val (.int p_1), .val (.int p_2), .val (.int v2), .val (.int (32 : Int32)), .val (.int (0 : Int32)), .val (.ref b131), .val (.int r143), .val (.int (4 : Int32)), .unset]) rfl k) ?_
            show own_Go _ _ _ _ T142 (mkF m 124 #[.val (.int p_1), .val (.int p_2), .val (.int v2), .val (.int (32 : Int32)), .val (.int (0 : Int32)), .val (.ref b131), .val (.int r143), .val (.int (4 : Int32)), .unset] [])
            refine own_go (fun _ k => XS.goto X142.here hx rfl (pc0 := 124) (pc' := 131) rfl (hb hby at_124) (by decide) (by decide) k) ?_
            show own_Go _ _ _ _ T142 (mkF m 131 #[.val (.int p_1), .val (.int p_2), .val (.int v2), .val (.int (32 : Int32)), .val (.int (0 : Int32)), .val (.ref b131), .val (.int r143), .val (.int (4 : Int32)), .unset] [])
            refine own_go (fun _ k => XS.bipush X142.here hx rfl (hb hby at_131) k) ?_
            show own_Go _ _ _ _ T142 (mkF m 133 #[.val (.int p_1), .val (.int p_2), .val (.int v2), .val (.int (32 : Int32)), .val (.int (0 : Int32)), .val (.ref b131), .val (.int r143), .val (.int (4 : Int32)), .unset] [(.int (8 : Int32))])
            refine own_go (fun _ k => XS.iload X142.here hx rfl (hb hby at_133) rfl k) ?_
            show own_Go _ _ _ _ T142 (mkF m 135 #[.val (.int p_1), .val (.int p_2), .val (.int v2), .val (.int (32 : Int32)), .val (.int (0 : Int32)), .val (.ref b131), .val (.int r143), .val (.int (4 : Int32)), .unset] [(.int r143), (.int (8 : Int32))])
            refine own_go (fun _ k => XS.imul X142.here hx rfl (hb hby at_135) rfl k) ?_
            show own_Go _ _ _ _ T142 (mkF m 136 #[.val (.int p_1), .val (.int p_2), .val (.int v2), .val (.int (32 : Int32)), .val (.int (0 : Int32)), .val (.ref b131), .val (.int r143), .val (.int (4 : Int32)), .unset] [(.int ((8 : Int32) * r143))])
            refine own_go (fun _ k => XS.iloadN X142.here hx rfl (hb hby at_136) rfl k) ?_
            show own_Go _ _ _ _ T142 (mkF m 137 #[.val (.int p_1), .val (.int p_2), .val (.int v2), .val (.int (32 : Int32)), .val (.int (0 : Int32)), .val (.ref b131), .val (.int r143), .val (.int (4 : Int32)), .unset] [(.int (32 : Int32)), (.int ((8 : Int32) * r143))])
            have hc148 : ¬ (((8 : Int32) * r143) < (32 : Int32)) := own_t0_18 r143 hr_r143
            refine own_go (fun _ k => XS.icmpNo X142.here hx rfl (hb hby at_137) rfl (Jvm.Free.XT.ii_lt_f hc148) k) ?_
            show own_Go _ _ _ _ T142 (mkF m 140 #[.val (.int p_1), .val (.int p_2), .val (.int v2), .val (.int (32 : Int32)), .val (.int (0 : Int32)), .val (.ref b131), .val (.int r143), .val (.int (4 : Int32)), .unset] [])
            refine own_go (fun _ k => XS.bipush X142.here hx rfl (hb hby at_140) k) ?_
            show own_Go _ _ _ _ T142 (mkF m 142 #[.val (.int p_1), .val (.int p_2), .val (.int v2), .val (.int (32 : Int32)), .val (.int (0 : Int32)), .val (.ref b131), .val (.int r143), .val (.int (4 : Int32)), .unset] [(.int (8 : Int32))])
            refine own_go (fun _ k => XS.iload X142.here hx rfl (hb hby at_142) rfl k) ?_
            show own_Go _ _ _ _ T142 (mkF m 144 #[.val (.int p_1), .val (.int p_2), .val (.int v2), .val (.int (32 : Int32)), .val (.int (0 : Int32)), .val (.ref b131), .val (.int r143), .val (.int (4 : Int32)), .unset] [(.int r143), (.int (8 : Int32))])
            refine own_go (fun _ k => XS.iconst X142.here hx rfl (hb hby at_144) k) ?_
            show own_Go _ _ _ _ T142 (mkF m 145 #[.val (.int p_1), .val (.int p_2), .val (.int v2), .val (.int (32 : Int32)), .val (.int (0 : Int32)), .val (.ref b131), .val (.int r143), .val (.int (4 : Int32)), .unset] [(.int (1 : Int32)), (.int r143), (.int (8 : Int32))])
            refine own_go (fun _ k => XS.isub X142.here hx rfl (hb hby at_145) rfl k) ?_
            show own_Go _ _ _ _ T142 (mkF m 146 #[.val (.int p_1), .val (.int p_2), .val (.int v2), .val (.int (32 : Int32)), .val (.int (0 : Int32)), .val (.ref b131), .val (.int r143), .val (.int (4 : Int32)), .unset] [(.int (r143 - (1 : Int32))), (.int (8 : Int32))])
            refine own_go (fun _ k => XS.imul X142.here hx rfl (hb hby at_146) rfl k) ?_
            show own_Go _ _ _ _ T142 (mkF m 147 #[.val (.int p_1), .val (.int p_2), .val (.int v2), .val (.int (32 : Int32)), .val (.int (0 : Int32)), .val (.ref b131), .val (.int r143), .val (.int (4 : Int32)), .unset] [(.int ((8 : Int32) * (r143 - (1 : Int32))))])
            refine own_go (fun _ k => XS.iloadN X142.here hx rfl (hb hby at_147) rfl k) ?_
            show own_Go _ _ _ _ T142 (mkF m 148 #[.val (.int p_1), .val (.int p_2), .val (.int v2), .val (.int (32 : Int32)), .val (.int (0 : Int32)), .val (.ref b131), .val (.int r143), .val (.int (4 : Int32)), .unset] [(.int (32 : Int32)), (.int ((8 : Int32) * (r143 - (1 : Int32))))])
            have hc149 : ((8 : Int32) * (r143 - (1 : Int32))) < (32 : Int32) := own_t0_19 r143 hr_r143 hc148
            refine own_go (fun _ k => XS.icmpNo X142.here hx rfl (hb hby at_148) rfl (Jvm.Free.XT.ii_ge_f hc149) k) ?_
            show own_Go _ _ _ _ T142 (mkF m 151 #[.val (.int p_1), .val (.int p_2), .val (.int v2), .val (.int (32 : Int32)), .val (.int (0 : Int32)), .val (.ref b131), .val (.int r143), .val (.int (4 : Int32)), .unset] [])
            refine own_go (fun _ k => XS.iconst X142.here hx rfl (hb hby at_151) k) ?_
            show own_Go _ _ _ _ T142 (mkF m 152 #[.val (.int p_1), .val (.int p_2), .val (.int v2), .val (.int (32 : Int32)), .val (.int (0 : Int32)), .val (.ref b131), .val (.int r143), .val (.int (4 : Int32)), .unset] [(.int (1 : Int32))])
            refine own_go (fun _ k => XS.goto X142.here hx rfl (pc0 := 152) (pc' := 156) rfl (hb hby at_152) (by decide) (by decide) k) ?_
            show own_Go _ _ _ _ T142 (mkF m 156 #[.val (.int p_1), .val (.int p_2), .val (.int v2), .val (.int (32 : Int32)), .val (.int (0 : Int32)), .val (.ref b131), .val (.int r143), .val (.int (4 : Int32)), .unset] [(.int (1 : Int32))])
            refine own_go (fun _ k => XS.istore X142.here hx rfl (hb hby at_156) rfl (l' := #[.val (.int p_1), .val (.int p_2), .val (.int v2), .val (.int (32 : Int32)), .val (.int (0 : Int32)), .val (.ref b131), .val (.int r143), .val (.int (4 : Int32)), .val (.int (1 : Int32))]) rfl k) ?_
            show own_Go _ _ _ _ T142 (mkF m 158 #[.val (.int p_1), .val (.int p_2), .val (.int v2), .val (.int (32 : Int32)), .val (.int (0 : Int32)), .val (.ref b131), .val (.int r143), .val (.int (4 : Int32)), .val (.int (1 : Int32))] [])
            refine own_go (fun _ k => XS.iload X142.here hx rfl (hb hby at_158) rfl k) ?_
            show own_Go _ _ _ _ T142 (mkF m 160 #[.val (.int p_1), .val (.int p_2), .val (.int v2), .val (.int (32 : Int32)), .val (.int (0 : Int32)), .val (.ref b131), .val (.int r143), .val (.int (4 : Int32)), .val (.int (1 : Int32))] [(.int r143)])
            refine own_go (fun _ k => XS.iload X142.here hx rfl (hb hby at_160) rfl k) ?_
            show own_Go _ _ _ _ T142 (mkF m 162 #[.val (.int p_1), .val (.int p_2), .val (.int v2), .val (.int (32 : Int32)), .val (.int (0 : Int32)), .val (.ref b131), .val (.int r143), .val (.int (4 : Int32)), .val (.int (1 : Int32))] [(.int (4 : Int32)), (.int r143)])
            have hc150 : r143 = (4 : Int32) := own_t0_20 r143 hr_r143 hc148 hc149
            refine own_go (fun _ k => XS.icmpNo X142.here hx rfl (hb hby at_162) rfl (Jvm.Free.XT.ii_ne_f hc150) k) ?_
            show own_Go _ _ _ _ T142 (mkF m 165 #[.val (.int p_1), .val (.int p_2), .val (.int v2), .val (.int (32 : Int32)), .val (.int (0 : Int32)), .val (.ref b131), .val (.int r143), .val (.int (4 : Int32)), .val (.int (1 : Int32))] [])
            refine own_go (fun _ k => XS.iload X142.here hx rfl (hb hby at_165) rfl k) ?_
            show own_Go _ _ _ _ T142 (mkF m 167 #[.val (.int p_1), .val (.int p_2), .val (.int v2), .val (.int (32 : Int32)), .val (.int (0 : Int32)), .val (.ref b131), .val (.int r143), .val (.int (4 : Int32)), .val (.int (1 : Int32))] [(.int (1 : Int32))])
            have hc151 : ¬ ((1 : Int32) = 0) := by decide
            refine own_go (fun _ k => XS.ifNo X142.here hx rfl (hb hby at_167) rfl (Jvm.Free.XT.i0_eq_f hc151) k) ?_
            show own_Go _ _ _ _ T142 (mkF m 170 #[.val (.int p_1), .val (.int p_2), .val (.int v2), .val (.int (32 : Int32)), .val (.int (0 : Int32)), .val (.ref b131), .val (.int r143), .val (.int (4 : Int32)), .val (.int (1 : Int32))] [])
            refine own_go (fun _ k => XS.iconst X142.here hx rfl (hb hby at_170) k) ?_
            show own_Go _ _ _ _ T142 (mkF m 171 #[.val (.int p_1), .val (.int p_2), .val (.int v2), .val (.int (32 : Int32)), .val (.int (0 : Int32)), .val (.ref b131), .val (.int r143), .val (.int (4 : Int32)), .val (.int (1 : Int32))] [(.int (1 : Int32))])
            refine own_go (fun _ k => XS.goto X142.here hx rfl (pc0 := 171) (pc' := 175) rfl (hb hby at_171) (by decide) (by decide) k) ?_
            show own_Go _ _ _ _ T142 (mkF m 175 #[.val (.int p_1), .val (.int p_2), .val (.int v2), .val (.int (32 : Int32)), .val (.int (0 : Int32)), .val (.ref b131), .val (.int r143), .val (.int (4 : Int32)), .val (.int (1 : Int32))] [(.int (1 : Int32))])
            obtain ⟨fs, hr, hrun, hended, hW, hsame⟩ := X142.leave (v := some (.int (1 : Int32))) (fun h => by rw [Bd.returns] at h; cases h)
            refine ⟨_, _, retOut X142 hx Bd.returns rfl (Or.inl ⟨rfl, Or.inr (Or.inl rfl), _, rfl⟩) (hb hby at_175) hr, hrun, hended, _, _, rfl, ?_, ⟨_, rfl⟩, hW, hsame.mono (by decide) (by decide)⟩
            show own_Q0 Z p_1 p_2 h0 n0 _ T142.heap _
            rw [e142]
            exact ⟨rfl, N142⟩
          · refine own_go (fun _ k => XS.ifNo X0.here hx rfl (hb hby at_55) rfl (Jvm.Free.XT.i0_eq_f hc130) k) ?_
            show own_Go _ _ _ _ s₁ (mkF m 58 #[.val (.int p_1), .val (.int p_2), .val (.int v2), .val (.int (32 : Int32)), .unset, .unset, .unset, .unset, .unset] [])
            refine own_go (fun _ k => XS.iconst X0.here hx rfl (hb hby at_58) k) ?_
            show own_Go _ _ _ _ s₁ (mkF m 59 #[.val (.int p_1), .val (.int p_2), .val (.int v2), .val (.int (32 : Int32)), .unset, .unset, .unset, .unset, .unset] [(.int (1 : Int32))])
            refine own_go (fun _ k => XS.goto X0.here hx rfl (pc0 := 59) (pc' := 63) rfl (hb hby at_59) (by decide) (by decide) k) ?_
            show own_Go _ _ _ _ s₁ (mkF m 63 #[.val (.int p_1), .val (.int p_2), .val (.int v2), .val (.int (32 : Int32)), .unset, .unset, .unset, .unset, .unset] [(.int (1 : Int32))])
            refine own_go (fun _ k => XS.istore X0.here hx rfl (hb hby at_63) rfl (l' := #[.val (.int p_1), .val (.int p_2), .val (.int v2), .val (.int (32 : Int32)), .val (.int (1 : Int32)), .unset, .unset, .unset, .unset]) rfl k) ?_
            show own_Go _ _ _ _ s₁ (mkF m 65 #[.val (.int p_1), .val (.int p_2), .val (.int v2), .val (.int (32 : Int32)), .val (.int (1 : Int32)), .unset, .unset, .unset, .unset] [])
            obtain ⟨T153, h153, X153, e153, E153, A153, D153, Y153, st153⟩ := newO X0 hx hZ hown (hw _ (List.mem_of_getElem? (i := 1) rfl)) (hw _ (List.mem_of_getElem? (i := 2) rfl)) (hw _ (List.mem_of_getElem? (i := 3) rfl)) e0 (g := (mkF m 65 #[.val (.int p_1), .val (.int p_2), .val (.int v2), .val (.int (32 : Int32)), .val (.int (1 : Int32)), .unset, .unset, .unset, .unset] [])) rfl (hb hby at_65) (by decide) (by decide)
            obtain ⟨b153, g153⟩ : ∃ z, z = h0.size := ⟨_, rfl⟩
            rw [← g153] at A153 D153 Y153 st153
            have z154 := E153.1
            have lt_b153 := A153.lt
            have F_bits_b153 : Fld Z h153 b153 "com/example/tessera/tessera/IntType" "bits" "I" (.int (0 : Int32)) := D153 (Or.inr (hw _ (List.mem_of_getElem? (i := 16) rfl))) (ty := .int) (by decide)
            have F_signed_b153 : Fld Z h153 b153 "com/example/tessera/tessera/IntType" "signed" "Z" (.int (0 : Int32)) := D153 (Or.inr (hw _ (List.mem_of_getElem? (i := 18) rfl))) (ty := .boolean) (by decide)
            refine own_go (fun _ k => st153 _ k) ?_
            show own_Go _ _ _ _ T153 (mkF m 68 #[.val (.int p_1), .val (.int p_2), .val (.int v2), .val (.int (32 : Int32)), .val (.int (1 : Int32)), .unset, .unset, .unset, .unset] [(.ref b153)])
            refine own_go (fun _ k => XS.dup X153.here hx rfl (hb hby at_68) rfl rfl k) ?_
            show own_Go _ _ _ _ T153 (mkF m 69 #[.val (.int p_1), .val (.int p_2), .val (.int v2), .val (.int (32 : Int32)), .val (.int (1 : Int32)), .unset, .unset, .unset, .unset] [(.ref b153), (.ref b153)])
            refine own_go (fun _ k => XS.iloadN X153.here hx rfl (hb hby at_69) rfl k) ?_
            show own_Go _ _ _ _ T153 (mkF m 70 #[.val (.int p_1), .val (.int p_2), .val (.int v2), .val (.int (32 : Int32)), .val (.int (1 : Int32)), .unset, .unset, .unset, .unset] [(.int (32 : Int32)), (.ref b153), (.ref b153)])
            refine own_go (fun _ k => XS.iload X153.here hx rfl (hb hby at_70) rfl k) ?_
            show own_Go _ _ _ _ T153 (mkF m 72 #[.val (.int p_1), .val (.int p_2), .val (.int v2), .val (.int (32 : Int32)), .val (.int (1 : Int32)), .unset, .unset, .unset, .unset] [(.int (1 : Int32)), (.int (32 : Int32)), (.ref b153), (.ref b153)])
            obtain ⟨_, _, ⟨T155, L155, k155, n155⟩, -, X155, ⟨Lc155, hQ155, l155, y155, z155⟩, st155⟩ := X153.specialBack hx (y := (⟨"com/example/tessera/tessera/IntType", "<init>", "(IZ)V"⟩ : MethodName)) rfl hown (mvT hZ (hw _ (List.mem_of_getElem? (i := 4) rfl))) (mvT hZ (hw _ (List.mem_of_getElem? (i := 5) rfl))) (mvT hZ (hw _ (List.mem_of_getElem? (i := 6) rfl))) (by decide) (backOf (W := 1) (own_rm1 l Z a0 hw [] b153 (32 : Int32) (1 : Int32) (0 : Int32) (0 : Int32) h153 n0 (by omega) (show (32 : Int32) = 1 ∨ (32 : Int32) = 8 ∨ (32 : Int32) = 16 ∨ (32 : Int32) = 32 ∨ (32 : Int32) = 64 by first | assumption | omega | decide) A153 F_bits_b153 F_signed_b153 (by omega)) hZ (hw _ (List.mem_of_getElem? (i := 6) rfl)) (hw _ (List.mem_of_getElem? (i := 3) rfl)) (by decide) (by decide)) (g := (mkF m 72 #[.val (.int p_1), .val (.int p_2), .val (.int v2), .val (.int (32 : Int32)), .val (.int (1 : Int32)), .unset, .unset, .unset, .unset] [(.int (1 : Int32)), (.int (32 : Int32)), (.ref b153), (.ref b153)])) rfl (by rw [hml]; rfl) (Steps.refl _) (a := b153) (argsL := [(.int (32 : Int32)), (.int (1 : Int32))]) (rest := [(.ref b153)]) (lenOf own_pd1 rfl) rfl (by show 2 * 0 + _ ≤ _; exact Nat.le_of_eq rfl) (hb hby at_72) (fun _ _ => ⟨rfl, e153, (by decide : 1 + 0 ≤ _), (by decide : 2 + 0 ≤ _)⟩)
            dsimp only [Pt.U, Pt.locs, Pt.cells, Pt.slots] at X155 l155 y155 z155 st155 hQ155
            subst l155 y155 z155
            obtain ⟨rfl, N155q, K155q, f156, f157, f158⟩ := hQ155
            have N155 := Fr.app N0 N155q
            have z159 := K155q.1
            have z160 := f156.lt
            have z161 := f157.lt
            obtain ⟨v162, hdv162⟩ : ∃ z : Int32, z = (nar .boolean (1 : Int32)) := ⟨_, rfl⟩
            rw [← hdv162] at f158
            have z163 := f158.lt
            refine own_go (fun _ k => st155.trans k) ?_
            show own_Go _ _ _ _ T155 (mkF m 75 #[.val (.int p_1), .val (.int p_2), .val (.int v2), .val (.int (32 : Int32)), .val (.int (1 : Int32)), .unset, .unset, .unset, .unset] [(.ref b153)])
            refine own_go (fun _ k => XS.astore X155.here hx rfl (hb hby at_75) rfl rfl (l' := #[.val (.int p_1), .val (.int p_2), .val (.int v2), .val (.int (32 : Int32)), .val (.int (1 : Int32)), .val (.ref b153), .unset, .unset, .unset]) rfl k) ?_
            show own_Go _ _ _ _ T155 (mkF m 77 #[.val (.int p_1), .val (.int p_2), .val (.int v2), .val (.int (32 : Int32)), .val (.int (1 : Int32)), .val (.ref b153), .unset, .unset, .unset] [])
            refine own_go (fun _ k => XS.aload X155.here hx rfl (hb hby at_77) rfl rfl k) ?_
            show own_Go _ _ _ _ T155 (mkF m 79 #[.val (.int p_1), .val (.int p_2), .val (.int v2), .val (.int (32 : Int32)), .val (.int (1 : Int32)), .val (.ref b153), .unset, .unset, .unset] [(.ref b153)])
            obtain ⟨cq164, kq164, q164a, q164b, q164c⟩ := isOf hZ rfl f156
            obtain ⟨_, _, ⟨T164, L164, k164, n164⟩, -, X164, ⟨Lc164, hQ164, l164, y164, z164⟩, st164⟩ := X155.virtualBack hx (y := (⟨"com/example/tessera/tessera/IntType", "fixedSize", "()I"⟩ : MethodName)) (z := (⟨"com/example/tessera/tessera/IntType", "fixedSize", "()I"⟩ : MethodName)) hown (mvT hZ (hw _ (List.mem_of_getElem? (i := 19) rfl))) (mvT hZ (hw _ (List.mem_of_getElem? (i := 20) rfl))) (notFace_of_selects (args := #[]) (mvT hZ (hw _ (List.mem_of_getElem? (i := 22) rfl)))) (mvT hZ (hw _ (List.mem_of_getElem? (i := 22) rfl))) (mvT hZ (hw _ (List.mem_of_getElem? (i := 21) rfl))) (by decide) (backOf (W := 0) (own_rm4 l Z a0 hw [] b153 (32 : Int32) T155.heap n0 (by omega) f157) hZ (hw _ (List.mem_of_getElem? (i := 23) rfl)) (hw _ (List.mem_of_getElem? (i := 3) rfl)) (by decide) (by decide)) q164a q164c (g := (mkF m 79 #[.val (.int p_1), .val (.int p_2), .val (.int v2), .val (.int (32 : Int32)), .val (.int (1 : Int32)), .val (.ref b153), .unset, .unset, .unset] [(.ref b153)])) rfl (by rw [hml]; rfl) (Steps.refl _) (argsL := []) (rest := []) (lenOf own_pd2 rfl) rfl (by show 2 * 0 + _ ≤ _; exact Nat.le_of_eq rfl) (hb hby at_79) (fun _ _ => ⟨rfl, rfl, (by decide : 1 + 0 ≤ _), (by decide : 2 + 0 ≤ _)⟩)
            dsimp only [Pt.U, Pt.locs, Pt.cells, Pt.slots] at X164 l164 y164 z164 st164 hQ164
            subst l164 y164 z164
            obtain ⟨r165, rfl, N164q, hr_r165, e164⟩ := hQ164
            have N164 := Fr.app N155 N164q
            refine own_go (fun _ k => st164.trans k) ?_
            show own_Go _ _ _ _ T164 (mkF m 82 #[.val (.int p_1), .val (.int p_2), .val (.int v2), .val (.int (32 : Int32)), .val (.int (1 : Int32)), .val (.ref b153), .unset, .unset, .unset] [(.int r165)])
            refine own_go (fun _ k => XS.istore X164.here hx rfl (hb hby at_82) rfl (l' := #[.val (.int p_1), .val (.int p_2), .val (.int v2), .val (.int (32 : Int32)), .val (.int (1 : Int32)), .val (.ref b153), .val (.int r165), .unset, .unset]) rfl k) ?_
            show own_Go _ _ _ _ T164 (mkF m 84 #[.val (.int p_1), .val (.int p_2), .val (.int v2), .val (.int (32 : Int32)), .val (.int (1 : Int32)), .val (.ref b153), .val (.int r165), .unset, .unset] [])
            refine own_go (fun _ k => XS.iloadN X164.here hx rfl (hb hby at_84) rfl k) ?_
            show own_Go _ _ _ _ T164 (mkF m 85 #[.val (.int p_1), .val (.int p_2), .val (.int v2), .val (.int (32 : Int32)), .val (.int (1 : Int32)), .val (.ref b153), .val (.int r165), .unset, .unset] [(.int v2)])
            refine own_go (fun _ k => XS.ifYes X164.here hx rfl (pc0 := 85) (pc' := 94) rfl (hb hby at_85) rfl (Jvm.Free.XT.i0_ne_t hc3) (by decide) (by decide) k) ?_
            show own_Go _ _ _ _ T164 (mkF m 94 #[.val (.int p_1), .val (.int p_2), .val (.int v2), .val (.int (32 : Int32)), .val (.int (1 : Int32)), .val (.ref b153), .val (.int r165), .unset, .unset] [])
            refine own_go (fun _ k => XS.iloadN X164.here hx rfl (hb hby at_94) rfl k) ?_
            show own_Go _ _ _ _ T164 (mkF m 95 #[.val (.int p_1), .val (.int p_2), .val (.int v2), .val (.int (32 : Int32)), .val (.int (1 : Int32)), .val (.ref b153), .val (.int r165), .unset, .unset] [(.int v2)])
            refine own_go (fun _ k => XS.iconst X164.here hx rfl (hb hby at_95) k) ?_
            show own_Go _ _ _ _ T164 (mkF m 96 #[.val (.int p_1), .val (.int p_2), .val (.int v2), .val (.int (32 : Int32)), .val (.int (1 : Int32)), .val (.ref b153), .val (.int r165), .unset, .unset] [(.int (1 : Int32)), (.int v2)])
            refine own_go (fun _ k => XS.icmpYes X164.here hx rfl (pc0 := 96) (pc' := 105) rfl (hb hby at_96) rfl (Jvm.Free.XT.ii_ne_t hc43) (by decide) (by decide) k) ?_
            show own_Go _ _ _ _ T164 (mkF m 105 #[.val (.int p_1), .val (.int p_2), .val (.int v2), .val (.int (32 : Int32)), .val (.int (1 : Int32)), .val (.ref b153), .val (.int r165), .unset, .unset] [])
            refine own_go (fun _ k => XS.iloadN X164.here hx rfl (hb hby at_105) rfl k) ?_
            show own_Go _ _ _ _ T164 (mkF m 106 #[.val (.int p_1), .val (.int p_2), .val (.int v2), .val (.int (32 : Int32)), .val (.int (1 : Int32)), .val (.ref b153), .val (.int r165), .unset, .unset] [(.int v2)])
            refine own_go (fun _ k => XS.iconst X164.here hx rfl (hb hby at_106) k) ?_
            show own_Go _ _ _ _ T164 (mkF m 107 #[.val (.int p_1), .val (.int p_2), .val (.int v2), .val (.int (32 : Int32)), .val (.int (1 : Int32)), .val (.ref b153), .val (.int r165), .unset, .unset] [(.int (2 : Int32)), (.int v2)])
            refine own_go (fun _ k => XS.icmpYes X164.here hx rfl (pc0 := 107) (pc' := 116) rfl (hb hby at_107) rfl (Jvm.Free.XT.ii_ne_t hc85) (by decide) (by decide) k) ?_
            show own_Go _ _ _ _ T164 (mkF m 116 #[.val (.int p_1), .val (.int p_2), .val (.int v2), .val (.int (32 : Int32)), .val (.int (1 : Int32)), .val (.ref b153), .val (.int r165), .unset, .unset] [])
            refine own_go (fun _ k => XS.iloadN X164.here hx rfl (hb hby at_116) rfl k) ?_
            show own_Go _ _ _ _ T164 (mkF m 117 #[.val (.int p_1), .val (.int p_2), .val (.int v2), .val (.int (32 : Int32)), .val (.int (1 : Int32)), .val (.ref b153), .val (.int r165), .unset, .unset] [(.int v2)])
            refine own_go (fun _ k => XS.iconst X164.here hx rfl (hb hby at_117) k) ?_
            show own_Go _ _ _ _ T164 (mkF m 118 #[.val (.int p_1), .val (.int p_2), .val (.int v2), .val (.int (32 : Int32)), .val (.int (1 : Int32)), .val (.ref b153), .val (.int r165), .unset, .unset] [(.int (3 : Int32)), (.int v2)])
            refine own_go (fun _ k => XS.icmpNo X164.here hx rfl (hb hby at_118) rfl (Jvm.Free.XT.ii_ne_f hc129) k) ?_
            show own_Go _ _ _ _ T164 (mkF m 121 #[.val (.int p_1), .val (.int p_2), .val (.int v2), .val (.int (32 : Int32)), .val (.int (1 : Int32)), .val (.ref b153), .val (.int r165), .unset, .unset] [])
            refine own_go (fun _ k => XS.iconst X164.here hx rfl (hb hby at_121) k) ?_
            show own_Go _ _ _ _ T164 (mkF m 122 #[.val (.int p_1), .val (.int p_2), .val (.int v2), .val (.int (32 : Int32)), .val (.int (1 : Int32)), .val (.ref b153), .val (.int r165), .unset, .unset] [(.int (4 : Int32))])
            refine own_go (fun _ k => XS.istore X164.here hx rfl (hb hby at_122) rfl (l' := #[.val (.int p_1), .val (.int p_2), .val (.int v2), .val (.int (32 : Int32)), .val (.int (1 : Int32)), .val (.ref b153), .val (.int r165), .val (.int (4 : Int32)), .unset]) rfl k) ?_
            show own_Go _ _ _ _ T164 (mkF m 124 #[.val (.int p_1), .val (.int p_2), .val (.int v2), .val (.int (32 : Int32)), .val (.int (1 : Int32)), .val (.ref b153), .val (.int r165), .val (.int (4 : Int32)), .unset] [])
            refine own_go (fun _ k => XS.goto X164.here hx rfl (pc0 := 124) (pc' := 131) rfl (hb hby at_124) (by decide) (by decide) k) ?_
            show own_Go _ _ _ _ T164 (mkF m 131 #[.val (.int p_1), .val (.int p_2), .val (.int v2), .val (.int (32 : Int32)), .val (.int (1 : Int32)), .val (.ref b153), .val (.int r165), .val (.int (4 : Int32)), .unset] [])
            refine own_go (fun _ k => XS.bipush X164.here hx rfl (hb hby at_131) k) ?_
            show own_Go _ _ _ _ T164 (mkF m 133 #[.val (.int p_1), .val (.int p_2), .val (.int v2), .val (.int (32 : Int32)), .val (.int (1 : Int32)), .val (.ref b153), .val (.int r165), .val (.int (4 : Int32)), .unset] [(.int (8 : Int32))])
            refine own_go (fun _ k => XS.iload X164.here hx rfl (hb hby at_133) rfl k) ?_
            show own_Go _ _ _ _ T164 (mkF m 135 #[.val (.int p_1), .val (.int p_2), .val (.int v2), .val (.int (32 : Int32)), .val (.int (1 : Int32)), .val (.ref b153), .val (.int r165), .val (.int (4 : Int32)), .unset] [(.int r165), (.int (8 : Int32))])
            refine own_go (fun _ k => XS.imul X164.here hx rfl (hb hby at_135) rfl k) ?_
            show own_Go _ _ _ _ T164 (mkF m 136 #[.val (.int p_1), .val (.int p_2), .val (.int v2), .val (.int (32 : Int32)), .val (.int (1 : Int32)), .val (.ref b153), .val (.int r165), .val (.int (4 : Int32)), .unset] [(.int ((8 : Int32) * r165))])
            refine own_go (fun _ k => XS.iloadN X164.here hx rfl (hb hby at_136) rfl k) ?_
            show own_Go _ _ _ _ T164 (mkF m 137 #[.val (.int p_1), .val (.int p_2), .val (.int v2), .val (.int (32 : Int32)), .val (.int (1 : Int32)), .val (.ref b153), .val (.int r165), .val (.int (4 : Int32)), .unset] [(.int (32 : Int32)), (.int ((8 : Int32) * r165))])
            have hc170 : ¬ (((8 : Int32) * r165) < (32 : Int32)) := own_t0_21 r165 hr_r165
            refine own_go (fun _ k => XS.icmpNo X164.here hx rfl (hb hby at_137) rfl (Jvm.Free.XT.ii_lt_f hc170) k) ?_
            show own_Go _ _ _ _ T164 (mkF m 140 #[.val (.int p_1), .val (.int p_2), .val (.int v2), .val (.int (32 : Int32)), .val (.int (1 : Int32)), .val (.ref b153), .val (.int r165), .val (.int (4 : Int32)), .unset] [])
            refine own_go (fun _ k => XS.bipush X164.here hx rfl (hb hby at_140) k) ?_
            show own_Go _ _ _ _ T164 (mkF m 142 #[.val (.int p_1), .val (.int p_2), .val (.int v2), .val (.int (32 : Int32)), .val (.int (1 : Int32)), .val (.ref b153), .val (.int r165), .val (.int (4 : Int32)), .unset] [(.int (8 : Int32))])
            refine own_go (fun _ k => XS.iload X164.here hx rfl (hb hby at_142) rfl k) ?_
            show own_Go _ _ _ _ T164 (mkF m 144 #[.val (.int p_1), .val (.int p_2), .val (.int v2), .val (.int (32 : Int32)), .val (.int (1 : Int32)), .val (.ref b153), .val (.int r165), .val (.int (4 : Int32)), .unset] [(.int r165), (.int (8 : Int32))])
            refine own_go (fun _ k => XS.iconst X164.here hx rfl (hb hby at_144) k) ?_
            show own_Go _ _ _ _ T164 (mkF m 145 #[.val (.int p_1), .val (.int p_2), .val (.int v2), .val (.int (32 : Int32)), .val (.int (1 : Int32)), .val (.ref b153), .val (.int r165), .val (.int (4 : Int32)), .unset] [(.int (1 : Int32)), (.int r165), (.int (8 : Int32))])
            refine own_go (fun _ k => XS.isub X164.here hx rfl (hb hby at_145) rfl k) ?_
            show own_Go _ _ _ _ T164 (mkF m 146 #[.val (.int p_1), .val (.int p_2), .val (.int v2), .val (.int (32 : Int32)), .val (.int (1 : Int32)), .val (.ref b153), .val (.int r165), .val (.int (4 : Int32)), .unset] [(.int (r165 - (1 : Int32))), (.int (8 : Int32))])
            refine own_go (fun _ k => XS.imul X164.here hx rfl (hb hby at_146) rfl k) ?_
            show own_Go _ _ _ _ T164 (mkF m 147 #[.val (.int p_1), .val (.int p_2), .val (.int v2), .val (.int (32 : Int32)), .val (.int (1 : Int32)), .val (.ref b153), .val (.int r165), .val (.int (4 : Int32)), .unset] [(.int ((8 : Int32) * (r165 - (1 : Int32))))])
            refine own_go (fun _ k => XS.iloadN X164.here hx rfl (hb hby at_147) rfl k) ?_
            show own_Go _ _ _ _ T164 (mkF m 148 #[.val (.int p_1), .val (.int p_2), .val (.int v2), .val (.int (32 : Int32)), .val (.int (1 : Int32)), .val (.ref b153), .val (.int r165), .val (.int (4 : Int32)), .unset] [(.int (32 : Int32)), (.int ((8 : Int32) * (r165 - (1 : Int32))))])
            have hc171 : ((8 : Int32) * (r165 - (1 : Int32))) < (32 : Int32) := own_t0_22 r165 hr_r165 hc170
            refine own_go (fun _ k => XS.icmpNo X164.here hx rfl (hb hby at_148) rfl (Jvm.Free.XT.ii_ge_f hc171) k) ?_
            show own_Go _ _ _ _ T164 (mkF m 151 #[.val (.int p_1), .val (.int p_2), .val (.int v2), .val (.int (32 : Int32)), .val (.int (1 : Int32)), .val (.ref b153), .val (.int r165), .val (.int (4 : Int32)), .unset] [])
            refine own_go (fun _ k => XS.iconst X164.here hx rfl (hb hby at_151) k) ?_
            show own_Go _ _ _ _ T164 (mkF m 152 #[.val (.int p_1), .val (.int p_2), .val (.int v2), .val (.int (32 : Int32)), .val (.int (1 : Int32)), .val (.ref b153), .val (.int r165), .val (.int (4 : Int32)), .unset] [(.int (1 : Int32))])
            refine own_go (fun _ k => XS.goto X164.here hx rfl (pc0 := 152) (pc' := 156) rfl (hb hby at_152) (by decide) (by decide) k) ?_
            show own_Go _ _ _ _ T164 (mkF m 156 #[.val (.int p_1), .val (.int p_2), .val (.int v2), .val (.int (32 : Int32)), .val (.int (1 : Int32)), .val (.ref b153), .val (.int r165), .val (.int (4 : Int32)), .unset] [(.int (1 : Int32))])
            refine own_go (fun _ k => XS.istore X164.here hx rfl (hb hby at_156) rfl (l' := #[.val (.int p_1), .val (.int p_2), .val (.int v2), .val (.int (32 : Int32)), .val (.int (1 : Int32)), .val (.ref b153), .val (.int r165), .val (.int (4 : Int32)), .val (.int (1 : Int32))]) rfl k) ?_
            show own_Go _ _ _ _ T164 (mkF m 158 #[.val (.int p_1), .val (.int p_2), .val (.int v2), .val (.int (32 : Int32)), .val (.int (1 : Int32)), .val (.ref b153), .val (.int r165), .val (.int (4 : Int32)), .val (.int (1 : Int32))] [])
            refine own_go (fun _ k => XS.iload X164.here hx rfl (hb hby at_158) rfl k) ?_
            show own_Go _ _ _ _ T164 (mkF m 160 #[.val (.int p_1), .val (.int p_2), .val (.int v2), .val (.int (32 : Int32)), .val (.int (1 : Int32)), .val (.ref b153), .val (.int r165), .val (.int (4 : Int32)), .val (.int (1 : Int32))] [(.int r165)])
            refine own_go (fun _ k => XS.iload X164.here hx rfl (hb hby at_160) rfl k) ?_
            show own_Go _ _ _ _ T164 (mkF m 162 #[.val (.int p_1), .val (.int p_2), .val (.int v2), .val (.int (32 : Int32)), .val (.int (1 : Int32)), .val (.ref b153), .val (.int r165), .val (.int (4 : Int32)), .val (.int (1 : Int32))] [(.int (4 : Int32)), (.int r165)])
            have hc172 : r165 = (4 : Int32) := own_t0_23 r165 hr_r165 hc170 hc171
            refine own_go (fun _ k => XS.icmpNo X164.here hx rfl (hb hby at_162) rfl (Jvm.Free.XT.ii_ne_f hc172) k) ?_
            show own_Go _ _ _ _ T164 (mkF m 165 #[.val (.int p_1), .val (.int p_2), .val (.int v2), .val (.int (32 : Int32)), .val (.int (1 : Int32)), .val (.ref b153), .val (.int r165), .val (.int (4 : Int32)), .val (.int (1 : Int32))] [])
            refine own_go (fun _ k => XS.iload X164.here hx rfl (hb hby at_165) rfl k) ?_
            show own_Go _ _ _ _ T164 (mkF m 167 #[.val (.int p_1), .val (.int p_2), .val (.int v2), .val (.int (32 : Int32)), .val (.int (1 : Int32)), .val (.ref b153), .val (.int r165), .val (.int (4 : Int32)), .val (.int (1 : Int32))] [(.int (1 : Int32))])
            have hc173 : ¬ ((1 : Int32) = 0) := by decide
            refine own_go (fun _ k => XS.ifNo X164.here hx rfl (hb hby at_167) rfl (Jvm.Free.XT.i0_eq_f hc173) k) ?_
            show own_Go _ _ _ _ T164 (mkF m 170 #[.val (.int p_1), .val (.int p_2), .val (.int v2), .val (.int (32 : Int32)), .val (.int (1 : Int32)), .val (.ref b153), .val (.int r165), .val (.int (4 : Int32)), .val (.int (1 : Int32))] [])
            refine own_go (fun _ k => XS.iconst X164.here hx rfl (hb hby at_170) k) ?_
            show own_Go _ _ _ _ T164 (mkF m 171 #[.val (.int p_1), .val (.int p_2), .val (.int v2), .val (.int (32 : Int32)), .val (.int (1 : Int32)), .val (.ref b153), .val (.int r165), .val (.int (4 : Int32)), .val (.int (1 : Int32))] [(.int (1 : Int32))])
            refine own_go (fun _ k => XS.goto X164.here hx rfl (pc0 := 171) (pc' := 175) rfl (hb hby at_171) (by decide) (by decide) k) ?_
            show own_Go _ _ _ _ T164 (mkF m 175 #[.val (.int p_1), .val (.int p_2), .val (.int v2), .val (.int (32 : Int32)), .val (.int (1 : Int32)), .val (.ref b153), .val (.int r165), .val (.int (4 : Int32)), .val (.int (1 : Int32))] [(.int (1 : Int32))])
            obtain ⟨fs, hr, hrun, hended, hW, hsame⟩ := X164.leave (v := some (.int (1 : Int32))) (fun h => by rw [Bd.returns] at h; cases h)
            refine ⟨_, _, retOut X164 hx Bd.returns rfl (Or.inl ⟨rfl, Or.inr (Or.inl rfl), _, rfl⟩) (hb hby at_175) hr, hrun, hended, _, _, rfl, ?_, ⟨_, rfl⟩, hW, hsame.mono (by decide) (by decide)⟩
            show own_Q0 Z p_1 p_2 h0 n0 _ T164.heap _
            rw [e164]
            exact ⟨rfl, N164⟩
        · refine own_go (fun _ k => XS.icmpYes X0.here hx rfl (pc0 := 40) (pc' := 49) rfl (hb hby at_40) rfl (Jvm.Free.XT.ii_ne_t hc129) (by decide) (by decide) k) ?_
          show own_Go _ _ _ _ s₁ (mkF m 49 #[.val (.int p_1), .val (.int p_2), .val (.int v2), .unset, .unset, .unset, .unset, .unset, .unset] [])
          refine own_go (fun _ k => XS.bipush X0.here hx rfl (hb hby at_49) k) ?_
          show own_Go _ _ _ _ s₁ (mkF m 51 #[.val (.int p_1), .val (.int p_2), .val (.int v2), .unset, .unset, .unset, .unset, .unset, .unset] [(.int (64 : Int32))])
          refine own_go (fun _ k => XS.istoreN X0.here hx rfl (hb hby at_51) rfl (l' := #[.val (.int p_1), .val (.int p_2), .val (.int v2), .val (.int (64 : Int32)), .unset, .unset, .unset, .unset, .unset]) rfl k) ?_
          show own_Go _ _ _ _ s₁ (mkF m 52 #[.val (.int p_1), .val (.int p_2), .val (.int v2), .val (.int (64 : Int32)), .unset, .unset, .unset, .unset, .unset] [])
          refine own_go (fun _ k => XS.iloadN X0.here hx rfl (hb hby at_52) rfl k) ?_
          show own_Go _ _ _ _ s₁ (mkF m 53 #[.val (.int p_1), .val (.int p_2), .val (.int v2), .val (.int (64 : Int32)), .unset, .unset, .unset, .unset, .unset] [(.int p_2)])
          refine own_go (fun _ k => XS.iconst X0.here hx rfl (hb hby at_53) k) ?_
          show own_Go _ _ _ _ s₁ (mkF m 54 #[.val (.int p_1), .val (.int p_2), .val (.int v2), .val (.int (64 : Int32)), .unset, .unset, .unset, .unset, .unset] [(.int (1 : Int32)), (.int p_2)])
          refine own_go (fun _ k => XS.iand X0.here hx rfl (hb hby at_54) rfl k) ?_
          show own_Go _ _ _ _ s₁ (mkF m 55 #[.val (.int p_1), .val (.int p_2), .val (.int v2), .val (.int (64 : Int32)), .unset, .unset, .unset, .unset, .unset] [(.int (p_2 &&& (1 : Int32)))])
          by_cases hc175 : (p_2 &&& (1 : Int32)) = 0
          · refine own_go (fun _ k => XS.ifYes X0.here hx rfl (pc0 := 55) (pc' := 62) rfl (hb hby at_55) rfl (Jvm.Free.XT.i0_eq_t hc175) (by decide) (by decide) k) ?_
            show own_Go _ _ _ _ s₁ (mkF m 62 #[.val (.int p_1), .val (.int p_2), .val (.int v2), .val (.int (64 : Int32)), .unset, .unset, .unset, .unset, .unset] [])
            refine own_go (fun _ k => XS.iconst X0.here hx rfl (hb hby at_62) k) ?_
            show own_Go _ _ _ _ s₁ (mkF m 63 #[.val (.int p_1), .val (.int p_2), .val (.int v2), .val (.int (64 : Int32)), .unset, .unset, .unset, .unset, .unset] [(.int (0 : Int32))])
            refine own_go (fun _ k => XS.istore X0.here hx rfl (hb hby at_63) rfl (l' := #[.val (.int p_1), .val (.int p_2), .val (.int v2), .val (.int (64 : Int32)), .val (.int (0 : Int32)), .unset, .unset, .unset, .unset]) rfl k) ?_
            show own_Go _ _ _ _ s₁ (mkF m 65 #[.val (.int p_1), .val (.int p_2), .val (.int v2), .val (.int (64 : Int32)), .val (.int (0 : Int32)), .unset, .unset, .unset, .unset] [])
            obtain ⟨T176, h176, X176, e176, E176, A176, D176, Y176, st176⟩ := newO X0 hx hZ hown (hw _ (List.mem_of_getElem? (i := 1) rfl)) (hw _ (List.mem_of_getElem? (i := 2) rfl)) (hw _ (List.mem_of_getElem? (i := 3) rfl)) e0 (g := (mkF m 65 #[.val (.int p_1), .val (.int p_2), .val (.int v2), .val (.int (64 : Int32)), .val (.int (0 : Int32)), .unset, .unset, .unset, .unset] [])) rfl (hb hby at_65) (by decide) (by decide)
            obtain ⟨b176, g176⟩ : ∃ z, z = h0.size := ⟨_, rfl⟩
            rw [← g176] at A176 D176 Y176 st176
            have z177 := E176.1
            have lt_b176 := A176.lt
            have F_bits_b176 : Fld Z h176 b176 "com/example/tessera/tessera/IntType" "bits" "I" (.int (0 : Int32)) := D176 (Or.inr (hw _ (List.mem_of_getElem? (i := 16) rfl))) (ty := .int) (by decide)
            have F_signed_b176 : Fld Z h176 b176 "com/example/tessera/tessera/IntType" "signed" "Z" (.int (0 : Int32)) := D176 (Or.inr (hw _ (List.mem_of_getElem? (i := 18) rfl))) (ty := .boolean) (by decide)
            refine own_go (fun _ k => st176 _ k) ?_
            show own_Go _ _ _ _ T176 (mkF m 68 #[.val (.int p_1), .val (.int p_2), .val (.int v2), .val (.int (64 : Int32)), .val (.int (0 : Int32)), .unset, .unset, .unset, .unset] [(.ref b176)])
            refine own_go (fun _ k => XS.dup X176.here hx rfl (hb hby at_68) rfl rfl k) ?_
            show own_Go _ _ _ _ T176 (mkF m 69 #[.val (.int p_1), .val (.int p_2), .val (.int v2), .val (.int (64 : Int32)), .val (.int (0 : Int32)), .unset, .unset, .unset, .unset] [(.ref b176), (.ref b176)])
            refine own_go (fun _ k => XS.iloadN X176.here hx rfl (hb hby at_69) rfl k) ?_
            show own_Go _ _ _ _ T176 (mkF m 70 #[.val (.int p_1), .val (.int p_2), .val (.int v2), .val (.int (64 : Int32)), .val (.int (0 : Int32)), .unset, .unset, .unset, .unset] [(.int (64 : Int32)), (.ref b176), (.ref b176)])
            refine own_go (fun _ k => XS.iload X176.here hx rfl (hb hby at_70) rfl k) ?_
            show own_Go _ _ _ _ T176 (mkF m 72 #[.val (.int p_1), .val (.int p_2), .val (.int v2), .val (.int (64 : Int32)), .val (.int (0 : Int32)), .unset, .unset, .unset, .unset] [(.int (0 : Int32)), (.int (64 : Int32)), (.ref b176), (.ref b176)])
            obtain ⟨_, _, ⟨T178, L178, k178, n178⟩, -, X178, ⟨Lc178, hQ178, l178, y178, z178⟩, st178⟩ := X176.specialBack hx (y := (⟨"com/example/tessera/tessera/IntType", "<init>", "(IZ)V"⟩ : MethodName)) rfl hown (mvT hZ (hw _ (List.mem_of_getElem? (i := 4) rfl))) (mvT hZ (hw _ (List.mem_of_getElem? (i := 5) rfl))) (mvT hZ (hw _ (List.mem_of_getElem? (i := 6) rfl))) (by decide) (backOf (W := 1) (own_rm1 l Z a0 hw [] b176 (64 : Int32) (0 : Int32) (0 : Int32) (0 : Int32) h176 n0 (by omega) (show (64 : Int32) = 1 ∨ (64 : Int32) = 8 ∨ (64 : Int32) = 16 ∨ (64 : Int32) = 32 ∨ (64 : Int32) = 64 by first | assumption | omega | decide) A176 F_bits_b176 F_signed_b176 (by omega)) hZ (hw _ (List.mem_of_getElem? (i := 6) rfl)) (hw _ (List.mem_of_getElem? (i := 3) rfl)) (by decide) (by decide)) (g := (mkF m 72 #[.val (.int p_1), .val (.int p_2), .val (.int v2), .val (.int (64 : Int32)), .val (.int (0 : Int32)), .unset, .unset, .unset, .unset] [(.int (0 : Int32)), (.int (64 : Int32)), (.ref b176), (.ref b176)])) rfl (by rw [hml]; rfl) (Steps.refl _) (a := b176) (argsL := [(.int (64 : Int32)), (.int (0 : Int32))]) (rest := [(.ref b176)]) (lenOf own_pd1 rfl) rfl (by show 2 * 0 + _ ≤ _; exact Nat.le_of_eq rfl) (hb hby at_72) (fun _ _ => ⟨rfl, e176, (by decide : 1 + 0 ≤ _), (by decide : 2 + 0 ≤ _)⟩)
            dsimp only [Pt.U, Pt.locs, Pt.cells, Pt.slots] at X178 l178 y178 z178 st178 hQ178
            subst l178 y178 z178
            obtain ⟨rfl, N178q, K178q, f179, f180, f181⟩ := hQ178
            have N178 := Fr.app N0 N178q
            have z182 := K178q.1
            have z183 := f179.lt
            have z184 := f180.lt
            obtain ⟨v185, hdv185⟩ : ∃ z : Int32, z = (nar .boolean (0 : Int32)) := ⟨_, rfl⟩
            rw [← hdv185] at f181
            have z186 := f181.lt
            refine own_go (fun _ k => st178.trans k) ?_
            show own_Go _ _ _ _ T178 (mkF m 75 #[.val (.int p_1), .val (.int p_2), .val (.int v2), .val (.int (64 : Int32)), .val (.int (0 : Int32)), .unset, .unset, .unset, .unset] [(.ref b176)])
            refine own_go (fun _ k => XS.astore X178.here hx rfl (hb hby at_75) rfl rfl (l' := #[.val (.int p_1), .val (.int p_2), .val (.int v2), .val (.int (64 : Int32)), .val (.int (0 : Int32)), .val (.ref b176), .unset, .unset, .unset]) rfl k) ?_
            show own_Go _ _ _ _ T178 (mkF m 77 #[.val (.int p_1), .val (.int p_2), .val (.int v2), .val (.int (64 : Int32)), .val (.int (0 : Int32)), .val (.ref b176), .unset, .unset, .unset] [])
            refine own_go (fun _ k => XS.aload X178.here hx rfl (hb hby at_77) rfl rfl k) ?_
            show own_Go _ _ _ _ T178 (mkF m 79 #[.val (.int p_1), .val (.int p_2), .val (.int v2), .val (.int (64 : Int32)), .val (.int (0 : Int32)), .val (.ref b176), .unset, .unset, .unset] [(.ref b176)])
            obtain ⟨cq187, kq187, q187a, q187b, q187c⟩ := isOf hZ rfl f179
            obtain ⟨_, _, ⟨T187, L187, k187, n187⟩, -, X187, ⟨Lc187, hQ187, l187, y187, z187⟩, st187⟩ := X178.virtualBack hx (y := (⟨"com/example/tessera/tessera/IntType", "fixedSize", "()I"⟩ : MethodName)) (z := (⟨"com/example/tessera/tessera/IntType", "fixedSize", "()I"⟩ : MethodName)) hown (mvT hZ (hw _ (List.mem_of_getElem? (i := 19) rfl))) (mvT hZ (hw _ (List.mem_of_getElem? (i := 20) rfl))) (notFace_of_selects (args := #[]) (mvT hZ (hw _ (List.mem_of_getElem? (i := 22) rfl)))) (mvT hZ (hw _ (List.mem_of_getElem? (i := 22) rfl))) (mvT hZ (hw _ (List.mem_of_getElem? (i := 21) rfl))) (by decide) (backOf (W := 0) (own_rm4 l Z a0 hw [] b176 (64 : Int32) T178.heap n0 (by omega) f180) hZ (hw _ (List.mem_of_getElem? (i := 23) rfl)) (hw _ (List.mem_of_getElem? (i := 3) rfl)) (by decide) (by decide)) q187a q187c (g := (mkF m 79 #[.val (.int p_1), .val (.int p_2), .val (.int v2), .val (.int (64 : Int32)), .val (.int (0 : Int32)), .val (.ref b176), .unset, .unset, .unset] [(.ref b176)])) rfl (by rw [hml]; rfl) (Steps.refl _) (argsL := []) (rest := []) (lenOf own_pd2 rfl) rfl (by show 2 * 0 + _ ≤ _; exact Nat.le_of_eq rfl) (hb hby at_79) (fun _ _ => ⟨rfl, rfl, (by decide : 1 + 0 ≤ _), (by decide : 2 + 0 ≤ _)⟩)
            dsimp only [Pt.U, Pt.locs, Pt.cells, Pt.slots] at X187 l187 y187 z187 st187 hQ187
            subst l187 y187 z187
            obtain ⟨r188, rfl, N187q, hr_r188, e187⟩ := hQ187
            have N187 := Fr.app N178 N187q
            refine own_go (fun _ k => st187.trans k) ?_
            show own_Go _ _ _ _ T187 (mkF m 82 #[.val (.int p_1), .val (.int p_2), .val (.int v2), .val (.int (64 : Int32)), .val (.int (0 : Int32)), .val (.ref b176), .unset, .unset, .unset] [(.int r188)])
            refine own_go (fun _ k => XS.istore X187.here hx rfl (hb hby at_82) rfl (l' := #[.val (.int p_1), .val (.int p_2), .val (.int v2), .val (.int (64 : Int32)), .val (.int (0 : Int32)), .val (.ref b176), .val (.int r188), .unset, .unset]) rfl k) ?_
            show own_Go _ _ _ _ T187 (mkF m 84 #[.val (.int p_1), .val (.int p_2), .val (.int v2), .val (.int (64 : Int32)), .val (.int (0 : Int32)), .val (.ref b176), .val (.int r188), .unset, .unset] [])
            refine own_go (fun _ k => XS.iloadN X187.here hx rfl (hb hby at_84) rfl k) ?_
            show own_Go _ _ _ _ T187 (mkF m 85 #[.val (.int p_1), .val (.int p_2), .val (.int v2), .val (.int (64 : Int32)), .val (.int (0 : Int32)), .val (.ref b176), .val (.int r188), .unset, .unset] [(.int v2)])
            refine own_go (fun _ k => XS.ifYes X187.here hx rfl (pc0 := 85) (pc' := 94) rfl (hb hby at_85) rfl (Jvm.Free.XT.i0_ne_t hc3) (by decide) (by decide) k) ?_
            show own_Go _ _ _ _ T187 (mkF m 94 #[.val (.int p_1), .val (.int p_2), .val (.int v2), .val (.int (64 : Int32)), .val (.int (0 : Int32)), .val (.ref b176), .val (.int r188), .unset, .unset] [])
            refine own_go (fun _ k => XS.iloadN X187.here hx rfl (hb hby at_94) rfl k) ?_
            show own_Go _ _ _ _ T187 (mkF m 95 #[.val (.int p_1), .val (.int p_2), .val (.int v2), .val (.int (64 : Int32)), .val (.int (0 : Int32)), .val (.ref b176), .val (.int r188), .unset, .unset] [(.int v2)])
            refine own_go (fun _ k => XS.iconst X187.here hx rfl (hb hby at_95) k) ?_
            show own_Go _ _ _ _ T187 (mkF m 96 #[.val (.int p_1), .val (.int p_2), .val (.int v2), .val (.int (64 : Int32)), .val (.int (0 : Int32)), .val (.ref b176), .val (.int r188), .unset, .unset] [(.int (1 : Int32)), (.int v2)])
            refine own_go (fun _ k => XS.icmpYes X187.here hx rfl (pc0 := 96) (pc' := 105) rfl (hb hby at_96) rfl (Jvm.Free.XT.ii_ne_t hc43) (by decide) (by decide) k) ?_
            show own_Go _ _ _ _ T187 (mkF m 105 #[.val (.int p_1), .val (.int p_2), .val (.int v2), .val (.int (64 : Int32)), .val (.int (0 : Int32)), .val (.ref b176), .val (.int r188), .unset, .unset] [])
            refine own_go (fun _ k => XS.iloadN X187.here hx rfl (hb hby at_105) rfl k) ?_
            show own_Go _ _ _ _ T187 (mkF m 106 #[.val (.int p_1), .val (.int p_2), .val (.int v2), .val (.int (64 : Int32)), .val (.int (0 : Int32)), .val (.ref b176), .val (.int r188), .unset, .unset] [(.int v2)])
            refine own_go (fun _ k => XS.iconst X187.here hx rfl (hb hby at_106) k) ?_
            show own_Go _ _ _ _ T187 (mkF m 107 #[.val (.int p_1), .val (.int p_2), .val (.int v2), .val (.int (64 : Int32)), .val (.int (0 : Int32)), .val (.ref b176), .val (.int r188), .unset, .unset] [(.int (2 : Int32)), (.int v2)])
            refine own_go (fun _ k => XS.icmpYes X187.here hx rfl (pc0 := 107) (pc' := 116) rfl (hb hby at_107) rfl (Jvm.Free.XT.ii_ne_t hc85) (by decide) (by decide) k) ?_
            show own_Go _ _ _ _ T187 (mkF m 116 #[.val (.int p_1), .val (.int p_2), .val (.int v2), .val (.int (64 : Int32)), .val (.int (0 : Int32)), .val (.ref b176), .val (.int r188), .unset, .unset] [])
            refine own_go (fun _ k => XS.iloadN X187.here hx rfl (hb hby at_116) rfl k) ?_
            show own_Go _ _ _ _ T187 (mkF m 117 #[.val (.int p_1), .val (.int p_2), .val (.int v2), .val (.int (64 : Int32)), .val (.int (0 : Int32)), .val (.ref b176), .val (.int r188), .unset, .unset] [(.int v2)])
            refine own_go (fun _ k => XS.iconst X187.here hx rfl (hb hby at_117) k) ?_
            show own_Go _ _ _ _ T187 (mkF m 118 #[.val (.int p_1), .val (.int p_2), .val (.int v2), .val (.int (64 : Int32)), .val (.int (0 : Int32)), .val (.ref b176), .val (.int r188), .unset, .unset] [(.int (3 : Int32)), (.int v2)])
            refine own_go (fun _ k => XS.icmpYes X187.here hx rfl (pc0 := 118) (pc' := 127) rfl (hb hby at_118) rfl (Jvm.Free.XT.ii_ne_t hc129) (by decide) (by decide) k) ?_
            show own_Go _ _ _ _ T187 (mkF m 127 #[.val (.int p_1), .val (.int p_2), .val (.int v2), .val (.int (64 : Int32)), .val (.int (0 : Int32)), .val (.ref b176), .val (.int r188), .unset, .unset] [])
            refine own_go (fun _ k => XS.bipush X187.here hx rfl (hb hby at_127) k) ?_
            show own_Go _ _ _ _ T187 (mkF m 129 #[.val (.int p_1), .val (.int p_2), .val (.int v2), .val (.int (64 : Int32)), .val (.int (0 : Int32)), .val (.ref b176), .val (.int r188), .unset, .unset] [(.int (8 : Int32))])
            refine own_go (fun _ k => XS.istore X187.here hx rfl (hb hby at_129) rfl (l' := #[.val (.int p_1), .val (.int p_2), .val (.int v2), .val (.int (64 : Int32)), .val (.int (0 : Int32)), .val (.ref b176), .val (.int r188), .val (.int (8 : Int32)), .unset]) rfl k) ?_
            show own_Go _ _ _ _ T187 (mkF m 131 #[.val (.int p_1), .val (.int p_2), .val (.int v2), .val (.int (64 : Int32)), .val (.int (0 : Int32)), .val (.ref b176), .val (.int r188), .val (.int (8 : Int32)), .unset] [])
            refine own_go (fun _ k => XS.bipush X187.here hx rfl (hb hby at_131) k) ?_
            show own_Go _ _ _ _ T187 (mkF m 133 #[.val (.int p_1), .val (.int p_2), .val (.int v2), .val (.int (64 : Int32)), .val (.int (0 : Int32)), .val (.ref b176), .val (.int r188), .val (.int (8 : Int32)), .unset] [(.int (8 : Int32))])
            refine own_go (fun _ k => XS.iload X187.here hx rfl (hb hby at_133) rfl k) ?_
            show own_Go _ _ _ _ T187 (mkF m 135 #[.val (.int p_1), .val (.int p_2), .val (.int v2), .val (.int (64 : Int32)), .val (.int (0 : Int32)), .val (.ref b176), .val (.int r188), .val (.int (8 : Int32)), .unset] [(.int r188), (.int (8 : Int32))])
            refine own_go (fun _ k => XS.imul X187.here hx rfl (hb hby at_135) rfl k) ?_
            show own_Go _ _ _ _ T187 (mkF m 136 #[.val (.int p_1), .val (.int p_2), .val (.int v2), .val (.int (64 : Int32)), .val (.int (0 : Int32)), .val (.ref b176), .val (.int r188), .val (.int (8 : Int32)), .unset] [(.int ((8 : Int32) * r188))])
            refine own_go (fun _ k => XS.iloadN X187.here hx rfl (hb hby at_136) rfl k) ?_
            show own_Go _ _ _ _ T187 (mkF m 137 #[.val (.int p_1), .val (.int p_2), .val (.int v2), .val (.int (64 : Int32)), .val (.int (0 : Int32)), .val (.ref b176), .val (.int r188), .val (.int (8 : Int32)), .unset] [(.int (64 : Int32)), (.int ((8 : Int32) * r188))])
            have hc193 : ¬ (((8 : Int32) * r188) < (64 : Int32)) := own_t0_24 r188 hr_r188
            refine own_go (fun _ k => XS.icmpNo X187.here hx rfl (hb hby at_137) rfl (Jvm.Free.XT.ii_lt_f hc193) k) ?_
            show own_Go _ _ _ _ T187 (mkF m 140 #[.val (.int p_1), .val (.int p_2), .val (.int v2), .val (.int (64 : Int32)), .val (.int (0 : Int32)), .val (.ref b176), .val (.int r188), .val (.int (8 : Int32)), .unset] [])
            refine own_go (fun _ k => XS.bipush X187.here hx rfl (hb hby at_140) k) ?_
            show own_Go _ _ _ _ T187 (mkF m 142 #[.val (.int p_1), .val (.int p_2), .val (.int v2), .val (.int (64 : Int32)), .val (.int (0 : Int32)), .val (.ref b176), .val (.int r188), .val (.int (8 : Int32)), .unset] [(.int (8 : Int32))])
            refine own_go (fun _ k => XS.iload X187.here hx rfl (hb hby at_142) rfl k) ?_
            show own_Go _ _ _ _ T187 (mkF m 144 #[.val (.int p_1), .val (.int p_2), .val (.int v2), .val (.int (64 : Int32)), .val (.int (0 : Int32)), .val (.ref b176), .val (.int r188), .val (.int (8 : Int32)), .unset] [(.int r188), (.int (8 : Int32))])
            refine own_go (fun _ k => XS.iconst X187.here hx rfl (hb hby at_144) k) ?_
            show own_Go _ _ _ _ T187 (mkF m 145 #[.val (.int p_1), .val (.int p_2), .val (.int v2), .val (.int (64 : Int32)), .val (.int (0 : Int32)), .val (.ref b176), .val (.int r188), .val (.int (8 : Int32)), .unset] [(.int (1 : Int32)), (.int r188), (.int (8 : Int32))])
            refine own_go (fun _ k => XS.isub X187.here hx rfl (hb hby at_145) rfl k) ?_
            show own_Go _ _ _ _ T187 (mkF m 146 #[.val (.int p_1), .val (.int p_2), .val (.int v2), .val (.int (64 : Int32)), .val (.int (0 : Int32)), .val (.ref b176), .val (.int r188), .val (.int (8 : Int32)), .unset] [(.int (r188 - (1 : Int32))), (.int (8 : Int32))])
            refine own_go (fun _ k => XS.imul X187.here hx rfl (hb hby at_146) rfl k) ?_
            show own_Go _ _ _ _ T187 (mkF m 147 #[.val (.int p_1), .val (.int p_2), .val (.int v2), .val (.int (64 : Int32)), .val (.int (0 : Int32)), .val (.ref b176), .val (.int r188), .val (.int (8 : Int32)), .unset] [(.int ((8 : Int32) * (r188 - (1 : Int32))))])
            refine own_go (fun _ k => XS.iloadN X187.here hx rfl (hb hby at_147) rfl k) ?_
            show own_Go _ _ _ _ T187 (mkF m 148 #[.val (.int p_1), .val (.int p_2), .val (.int v2), .val (.int (64 : Int32)), .val (.int (0 : Int32)), .val (.ref b176), .val (.int r188), .val (.int (8 : Int32)), .unset] [(.int (64 : Int32)), (.int ((8 : Int32) * (r188 - (1 : Int32))))])
            have hc194 : ((8 : Int32) * (r188 - (1 : Int32))) < (64 : Int32) := own_t0_25 r188 hr_r188 hc193
            refine own_go (fun _ k => XS.icmpNo X187.here hx rfl (hb hby at_148) rfl (Jvm.Free.XT.ii_ge_f hc194) k) ?_
            show own_Go _ _ _ _ T187 (mkF m 151 #[.val (.int p_1), .val (.int p_2), .val (.int v2), .val (.int (64 : Int32)), .val (.int (0 : Int32)), .val (.ref b176), .val (.int r188), .val (.int (8 : Int32)), .unset] [])
            refine own_go (fun _ k => XS.iconst X187.here hx rfl (hb hby at_151) k) ?_
            show own_Go _ _ _ _ T187 (mkF m 152 #[.val (.int p_1), .val (.int p_2), .val (.int v2), .val (.int (64 : Int32)), .val (.int (0 : Int32)), .val (.ref b176), .val (.int r188), .val (.int (8 : Int32)), .unset] [(.int (1 : Int32))])
            refine own_go (fun _ k => XS.goto X187.here hx rfl (pc0 := 152) (pc' := 156) rfl (hb hby at_152) (by decide) (by decide) k) ?_
            show own_Go _ _ _ _ T187 (mkF m 156 #[.val (.int p_1), .val (.int p_2), .val (.int v2), .val (.int (64 : Int32)), .val (.int (0 : Int32)), .val (.ref b176), .val (.int r188), .val (.int (8 : Int32)), .unset] [(.int (1 : Int32))])
            refine own_go (fun _ k => XS.istore X187.here hx rfl (hb hby at_156) rfl (l' := #[.val (.int p_1), .val (.int p_2), .val (.int v2), .val (.int (64 : Int32)), .val (.int (0 : Int32)), .val (.ref b176), .val (.int r188), .val (.int (8 : Int32)), .val (.int (1 : Int32))]) rfl k) ?_
            show own_Go _ _ _ _ T187 (mkF m 158 #[.val (.int p_1), .val (.int p_2), .val (.int v2), .val (.int (64 : Int32)), .val (.int (0 : Int32)), .val (.ref b176), .val (.int r188), .val (.int (8 : Int32)), .val (.int (1 : Int32))] [])
            refine own_go (fun _ k => XS.iload X187.here hx rfl (hb hby at_158) rfl k) ?_
            show own_Go _ _ _ _ T187 (mkF m 160 #[.val (.int p_1), .val (.int p_2), .val (.int v2), .val (.int (64 : Int32)), .val (.int (0 : Int32)), .val (.ref b176), .val (.int r188), .val (.int (8 : Int32)), .val (.int (1 : Int32))] [(.int r188)])
            refine own_go (fun _ k => XS.iload X187.here hx rfl (hb hby at_160) rfl k) ?_
            show own_Go _ _ _ _ T187 (mkF m 162 #[.val (.int p_1), .val (.int p_2), .val (.int v2), .val (.int (64 : Int32)), .val (.int (0 : Int32)), .val (.ref b176), .val (.int r188), .val (.int (8 : Int32)), .val (.int (1 : Int32))] [(.int (8 : Int32)), (.int r188)])
            have hc195 : r188 = (8 : Int32) := own_t0_26 r188 hr_r188 hc193 hc194
            refine own_go (fun _ k => XS.icmpNo X187.here hx rfl (hb hby at_162) rfl (Jvm.Free.XT.ii_ne_f hc195) k) ?_
            show own_Go _ _ _ _ T187 (mkF m 165 #[.val (.int p_1), .val (.int p_2), .val (.int v2), .val (.int (64 : Int32)), .val (.int (0 : Int32)), .val (.ref b176), .val (.int r188), .val (.int (8 : Int32)), .val (.int (1 : Int32))] [])
            refine own_go (fun _ k => XS.iload X187.here hx rfl (hb hby at_165) rfl k) ?_
            show own_Go _ _ _ _ T187 (mkF m 167 #[.val (.int p_1), .val (.int p_2), .val (.int v2), .val (.int (64 : Int32)), .val (.int (0 : Int32)), .val (.ref b176), .val (.int r188), .val (.int (8 : Int32)), .val (.int (1 : Int32))] [(.int (1 : Int32))])
            have hc196 : ¬ ((1 : Int32) = 0) := by decide
            refine own_go (fun _ k => XS.ifNo X187.here hx rfl (hb hby at_167) rfl (Jvm.Free.XT.i0_eq_f hc196) k) ?_
            show own_Go _ _ _ _ T187 (mkF m 170 #[.val (.int p_1), .val (.int p_2), .val (.int v2), .val (.int (64 : Int32)), .val (.int (0 : Int32)), .val (.ref b176), .val (.int r188), .val (.int (8 : Int32)), .val (.int (1 : Int32))] [])
            refine own_go (fun _ k => XS.iconst X187.here hx rfl (hb hby at_170) k) ?_
            show own_Go _ _ _ _ T187 (mkF m 171 #[.val (.int p_1), .val (.int p_2), .val (.int v2), .val (.int (64 : Int32)), .val (.int (0 : Int32)), .val (.ref b176), .val (.int r188), .val (.int (8 : Int32)), .val (.int (1 : Int32))] [(.int (1 : Int32))])
            refine own_go (fun _ k => XS.goto X187.here hx rfl (pc0 := 171) (pc' := 175) rfl (hb hby at_171) (by decide) (by decide) k) ?_
            show own_Go _ _ _ _ T187 (mkF m 175 #[.val (.int p_1), .val (.int p_2), .val (.int v2), .val (.int (64 : Int32)), .val (.int (0 : Int32)), .val (.ref b176), .val (.int r188), .val (.int (8 : Int32)), .val (.int (1 : Int32))] [(.int (1 : Int32))])
            obtain ⟨fs, hr, hrun, hended, hW, hsame⟩ := X187.leave (v := some (.int (1 : Int32))) (fun h => by rw [Bd.returns] at h; cases h)
            refine ⟨_, _, retOut X187 hx Bd.returns rfl (Or.inl ⟨rfl, Or.inr (Or.inl rfl), _, rfl⟩) (hb hby at_175) hr, hrun, hended, _, _, rfl, ?_, ⟨_, rfl⟩, hW, hsame.mono (by decide) (by decide)⟩
            show own_Q0 Z p_1 p_2 h0 n0 _ T187.heap _
            rw [e187]
            exact ⟨rfl, N187⟩
          · refine own_go (fun _ k => XS.ifNo X0.here hx rfl (hb hby at_55) rfl (Jvm.Free.XT.i0_eq_f hc175) k) ?_
            show own_Go _ _ _ _ s₁ (mkF m 58 #[.val (.int p_1), .val (.int p_2), .val (.int v2), .val (.int (64 : Int32)), .unset, .unset, .unset, .unset, .unset] [])
            refine own_go (fun _ k => XS.iconst X0.here hx rfl (hb hby at_58) k) ?_
            show own_Go _ _ _ _ s₁ (mkF m 59 #[.val (.int p_1), .val (.int p_2), .val (.int v2), .val (.int (64 : Int32)), .unset, .unset, .unset, .unset, .unset] [(.int (1 : Int32))])
            refine own_go (fun _ k => XS.goto X0.here hx rfl (pc0 := 59) (pc' := 63) rfl (hb hby at_59) (by decide) (by decide) k) ?_
            show own_Go _ _ _ _ s₁ (mkF m 63 #[.val (.int p_1), .val (.int p_2), .val (.int v2), .val (.int (64 : Int32)), .unset, .unset, .unset, .unset, .unset] [(.int (1 : Int32))])
            refine own_go (fun _ k => XS.istore X0.here hx rfl (hb hby at_63) rfl (l' := #[.val (.int p_1), .val (.int p_2), .val (.int v2), .val (.int (64 : Int32)), .val (.int (1 : Int32)), .unset, .unset, .unset, .unset]) rfl k) ?_
            show own_Go _ _ _ _ s₁ (mkF m 65 #[.val (.int p_1), .val (.int p_2), .val (.int v2), .val (.int (64 : Int32)), .val (.int (1 : Int32)), .unset, .unset, .unset, .unset] [])
            obtain ⟨T198, h198, X198, e198, E198, A198, D198, Y198, st198⟩ := newO X0 hx hZ hown (hw _ (List.mem_of_getElem? (i := 1) rfl)) (hw _ (List.mem_of_getElem? (i := 2) rfl)) (hw _ (List.mem_of_getElem? (i := 3) rfl)) e0 (g := (mkF m 65 #[.val (.int p_1), .val (.int p_2), .val (.int v2), .val (.int (64 : Int32)), .val (.int (1 : Int32)), .unset, .unset, .unset, .unset] [])) rfl (hb hby at_65) (by decide) (by decide)
            obtain ⟨b198, g198⟩ : ∃ z, z = h0.size := ⟨_, rfl⟩
            rw [← g198] at A198 D198 Y198 st198
            have z199 := E198.1
            have lt_b198 := A198.lt
            have F_bits_b198 : Fld Z h198 b198 "com/example/tessera/tessera/IntType" "bits" "I" (.int (0 : Int32)) := D198 (Or.inr (hw _ (List.mem_of_getElem? (i := 16) rfl))) (ty := .int) (by decide)
            have F_signed_b198 : Fld Z h198 b198 "com/example/tessera/tessera/IntType" "signed" "Z" (.int (0 : Int32)) := D198 (Or.inr (hw _ (List.mem_of_getElem? (i := 18) rfl))) (ty := .boolean) (by decide)
            refine own_go (fun _ k => st198 _ k) ?_
            show own_Go _ _ _ _ T198 (mkF m 68 #[.val (.int p_1), .val (.int p_2), .val (.int v2), .val (.int (64 : Int32)), .val (.int (1 : Int32)), .unset, .unset, .unset, .unset] [(.ref b198)])
            refine own_go (fun _ k => XS.dup X198.here hx rfl (hb hby at_68) rfl rfl k) ?_
            show own_Go _ _ _ _ T198 (mkF m 69 #[.val (.int p_1), .val (.int p_2), .val (.int v2), .val (.int (64 : Int32)), .val (.int (1 : Int32)), .unset, .unset, .unset, .unset] [(.ref b198), (.ref b198)])
            refine own_go (fun _ k => XS.iloadN X198.here hx rfl (hb hby at_69) rfl k) ?_
            show own_Go _ _ _ _ T198 (mkF m 70 #[.val (.int p_1), .val (.int p_2), .val (.int v2), .val (.int (64 : Int32)), .val (.int (1 : Int32)), .unset, .unset, .unset, .unset] [(.int (64 : Int32)), (.ref b198), (.ref b198)])
            refine own_go (fun _ k => XS.iload X198.here hx rfl (hb hby at_70) rfl k) ?_
            show own_Go _ _ _ _ T198 (mkF m 72 #[.val (.int p_1), .val (.int p_2), .val (.int v2), .val (.int (64 : Int32)), .val (.int (1 : Int32)), .unset, .unset, .unset, .unset] [(.int (1 : Int32)), (.int (64 : Int32)), (.ref b198), (.ref b198)])
            obtain ⟨_, _, ⟨T200, L200, k200, n200⟩, -, X200, ⟨Lc200, hQ200, l200, y200, z200⟩, st200⟩ := X198.specialBack hx (y := (⟨"com/example/tessera/tessera/IntType", "<init>", "(IZ)V"⟩ : MethodName)) rfl hown (mvT hZ (hw _ (List.mem_of_getElem? (i := 4) rfl))) (mvT hZ (hw _ (List.mem_of_getElem? (i := 5) rfl))) (mvT hZ (hw _ (List.mem_of_getElem? (i := 6) rfl))) (by decide) (backOf (W := 1) (own_rm1 l Z a0 hw [] b198 (64 : Int32) (1 : Int32) (0 : Int32) (0 : Int32) h198 n0 (by omega) (show (64 : Int32) = 1 ∨ (64 : Int32) = 8 ∨ (64 : Int32) = 16 ∨ (64 : Int32) = 32 ∨ (64 : Int32) = 64 by first | assumption | omega | decide) A198 F_bits_b198 F_signed_b198 (by omega)) hZ (hw _ (List.mem_of_getElem? (i := 6) rfl)) (hw _ (List.mem_of_getElem? (i := 3) rfl)) (by decide) (by decide)) (g := (mkF m 72 #[.val (.int p_1), .val (.int p_2), .val (.int v2), .val (.int (64 : Int32)), .val (.int (1 : Int32)), .unset, .unset, .unset, .unset] [(.int (1 : Int32)), (.int (64 : Int32)), (.ref b198), (.ref b198)])) rfl (by rw [hml]; rfl) (Steps.refl _) (a := b198) (argsL := [(.int (64 : Int32)), (.int (1 : Int32))]) (rest := [(.ref b198)]) (lenOf own_pd1 rfl) rfl (by show 2 * 0 + _ ≤ _; exact Nat.le_of_eq rfl) (hb hby at_72) (fun _ _ => ⟨rfl, e198, (by decide : 1 + 0 ≤ _), (by decide : 2 + 0 ≤ _)⟩)
            dsimp only [Pt.U, Pt.locs, Pt.cells, Pt.slots] at X200 l200 y200 z200 st200 hQ200
            subst l200 y200 z200
            obtain ⟨rfl, N200q, K200q, f201, f202, f203⟩ := hQ200
            have N200 := Fr.app N0 N200q
            have z204 := K200q.1
            have z205 := f201.lt
            have z206 := f202.lt
            obtain ⟨v207, hdv207⟩ : ∃ z : Int32, z = (nar .boolean (1 : Int32)) := ⟨_, rfl⟩
            rw [← hdv207] at f203
            have z208 := f203.lt
            refine own_go (fun _ k => st200.trans k) ?_
            show own_Go _ _ _ _ T200 (mkF m 75 #[.val (.int p_1), .val (.int p_2), .val (.int v2), .val (.int (64 : Int32)), .val (.int (1 : Int32)), .unset, .unset, .unset, .unset] [(.ref b198)])
            refine own_go (fun _ k => XS.astore X200.here hx rfl (hb hby at_75) rfl rfl (l' := #[.val (.int p_1), .val (.int p_2), .val (.int v2), .val (.int (64 : Int32)), .val (.int (1 : Int32)), .val (.ref b198), .unset, .unset, .unset]) rfl k) ?_
            show own_Go _ _ _ _ T200 (mkF m 77 #[.val (.int p_1), .val (.int p_2), .val (.int v2), .val (.int (64 : Int32)), .val (.int (1 : Int32)), .val (.ref b198), .unset, .unset, .unset] [])
            refine own_go (fun _ k => XS.aload X200.here hx rfl (hb hby at_77) rfl rfl k) ?_
            show own_Go _ _ _ _ T200 (mkF m 79 #[.val (.int p_1), .val (.int p_2), .val (.int v2), .val (.int (64 : Int32)), .val (.int (1 : Int32)), .val (.ref b198), .unset, .unset, .unset] [(.ref b198)])
            obtain ⟨cq209, kq209, q209a, q209b, q209c⟩ := isOf hZ rfl f201
            obtain ⟨_, _, ⟨T209, L209, k209, n209⟩, -, X209, ⟨Lc209, hQ209, l209, y209, z209⟩, st209⟩ := X200.virtualBack hx (y := (⟨"com/example/tessera/tessera/IntType", "fixedSize", "()I"⟩ : MethodName)) (z := (⟨"com/example/tessera/tessera/IntType", "fixedSize", "()I"⟩ : MethodName)) hown (mvT hZ (hw _ (List.mem_of_getElem? (i := 19) rfl))) (mvT hZ (hw _ (List.mem_of_getElem? (i := 20) rfl))) (notFace_of_selects (args := #[]) (mvT hZ (hw _ (List.mem_of_getElem? (i := 22) rfl)))) (mvT hZ (hw _ (List.mem_of_getElem? (i := 22) rfl))) (mvT hZ (hw _ (List.mem_of_getElem? (i := 21) rfl))) (by decide) (backOf (W := 0) (own_rm4 l Z a0 hw [] b198 (64 : Int32) T200.heap n0 (by omega) f202) hZ (hw _ (List.mem_of_getElem? (i := 23) rfl)) (hw _ (List.mem_of_getElem? (i := 3) rfl)) (by decide) (by decide)) q209a q209c (g := (mkF m 79 #[.val (.int p_1), .val (.int p_2), .val (.int v2), .val (.int (64 : Int32)), .val (.int (1 : Int32)), .val (.ref b198), .unset, .unset, .unset] [(.ref b198)])) rfl (by rw [hml]; rfl) (Steps.refl _) (argsL := []) (rest := []) (lenOf own_pd2 rfl) rfl (by show 2 * 0 + _ ≤ _; exact Nat.le_of_eq rfl) (hb hby at_79) (fun _ _ => ⟨rfl, rfl, (by decide : 1 + 0 ≤ _), (by decide : 2 + 0 ≤ _)⟩)
            dsimp only [Pt.U, Pt.locs, Pt.cells, Pt.slots] at X209 l209 y209 z209 st209 hQ209
            subst l209 y209 z209
            obtain ⟨r210, rfl, N209q, hr_r210, e209⟩ := hQ209
            have N209 := Fr.app N200 N209q
            refine own_go (fun _ k => st209.trans k) ?_
            show own_Go _ _ _ _ T209 (mkF m 82 #[.val (.int p_1), .val (.int p_2), .val (.int v2), .val (.int (64 : Int32)), .val (.int (1 : Int32)), .val (.ref b198), .unset, .unset, .unset] [(.int r210)])
            refine own_go (fun _ k => XS.istore X209.here hx rfl (hb hby at_82) rfl (l' := #[.val (.int p_1), .val (.int p_2), .val (.int v2), .val (.int (64 : Int32)), .val (.int (1 : Int32)), .val (.ref b198), .val (.int r210), .unset, .unset]) rfl k) ?_
            show own_Go _ _ _ _ T209 (mkF m 84 #[.val (.int p_1), .val (.int p_2), .val (.int v2), .val (.int (64 : Int32)), .val (.int (1 : Int32)), .val (.ref b198), .val (.int r210), .unset, .unset] [])
            refine own_go (fun _ k => XS.iloadN X209.here hx rfl (hb hby at_84) rfl k) ?_
            show own_Go _ _ _ _ T209 (mkF m 85 #[.val (.int p_1), .val (.int p_2), .val (.int v2), .val (.int (64 : Int32)), .val (.int (1 : Int32)), .val (.ref b198), .val (.int r210), .unset, .unset] [(.int v2)])
            refine own_go (fun _ k => XS.ifYes X209.here hx rfl (pc0 := 85) (pc' := 94) rfl (hb hby at_85) rfl (Jvm.Free.XT.i0_ne_t hc3) (by decide) (by decide) k) ?_
            show own_Go _ _ _ _ T209 (mkF m 94 #[.val (.int p_1), .val (.int p_2), .val (.int v2), .val (.int (64 : Int32)), .val (.int (1 : Int32)), .val (.ref b198), .val (.int r210), .unset, .unset] [])
            refine own_go (fun _ k => XS.iloadN X209.here hx rfl (hb hby at_94) rfl k) ?_
            show own_Go _ _ _ _ T209 (mkF m 95 #[.val (.int p_1), .val (.int p_2), .val (.int v2), .val (.int (64 : Int32)), .val (.int (1 : Int32)), .val (.ref b198), .val (.int r210), .unset, .unset] [(.int v2)])
            refine own_go (fun _ k => XS.iconst X209.here hx rfl (hb hby at_95) k) ?_
            show own_Go _ _ _ _ T209 (mkF m 96 #[.val (.int p_1), .val (.int p_2), .val (.int v2), .val (.int (64 : Int32)), .val (.int (1 : Int32)), .val (.ref b198), .val (.int r210), .unset, .unset] [(.int (1 : Int32)), (.int v2)])
            refine own_go (fun _ k => XS.icmpYes X209.here hx rfl (pc0 := 96) (pc' := 105) rfl (hb hby at_96) rfl (Jvm.Free.XT.ii_ne_t hc43) (by decide) (by decide) k) ?_
            show own_Go _ _ _ _ T209 (mkF m 105 #[.val (.int p_1), .val (.int p_2), .val (.int v2), .val (.int (64 : Int32)), .val (.int (1 : Int32)), .val (.ref b198), .val (.int r210), .unset, .unset] [])
            refine own_go (fun _ k => XS.iloadN X209.here hx rfl (hb hby at_105) rfl k) ?_
            show own_Go _ _ _ _ T209 (mkF m 106 #[.val (.int p_1), .val (.int p_2), .val (.int v2), .val (.int (64 : Int32)), .val (.int (1 : Int32)), .val (.ref b198), .val (.int r210), .unset, .unset] [(.int v2)])
            refine own_go (fun _ k => XS.iconst X209.here hx rfl (hb hby at_106) k) ?_
            show own_Go _ _ _ _ T209 (mkF m 107 #[.val (.int p_1), .val (.int p_2), .val (.int v2), .val (.int (64 : Int32)), .val (.int (1 : Int32)), .val (.ref b198), .val (.int r210), .unset, .unset] [(.int (2 : Int32)), (.int v2)])
            refine own_go (fun _ k => XS.icmpYes X209.here hx rfl (pc0 := 107) (pc' := 116) rfl (hb hby at_107) rfl (Jvm.Free.XT.ii_ne_t hc85) (by decide) (by decide) k) ?_
            show own_Go _ _ _ _ T209 (mkF m 116 #[.val (.int p_1), .val (.int p_2), .val (.int v2), .val (.int (64 : Int32)), .val (.int (1 : Int32)), .val (.ref b198), .val (.int r210), .unset, .unset] [])
            refine own_go (fun _ k => XS.iloadN X209.here hx rfl (hb hby at_116) rfl k) ?_
            show own_Go _ _ _ _ T209 (mkF m 117 #[.val (.int p_1), .val (.int p_2), .val (.int v2), .val (.int (64 : Int32)), .val (.int (1 : Int32)), .val (.ref b198), .val (.int r210), .unset, .unset] [(.int v2)])
            refine own_go (fun _ k => XS.iconst X209.here hx rfl (hb hby at_117) k) ?_
            show own_Go _ _ _ _ T209 (mkF m 118 #[.val (.int p_1), .val (.int p_2), .val (.int v2), .val (.int (64 : Int32)), .val (.int (1 : Int32)), .val (.ref b198), .val (.int r210), .unset, .unset] [(.int (3 : Int32)), (.int v2)])
            refine own_go (fun _ k => XS.icmpYes X209.here hx rfl (pc0 := 118) (pc' := 127) rfl (hb hby at_118) rfl (Jvm.Free.XT.ii_ne_t hc129) (by decide) (by decide) k) ?_
            show own_Go _ _ _ _ T209 (mkF m 127 #[.val (.int p_1), .val (.int p_2), .val (.int v2), .val (.int (64 : Int32)), .val (.int (1 : Int32)), .val (.ref b198), .val (.int r210), .unset, .unset] [])
            refine own_go (fun _ k => XS.bipush X209.here hx rfl (hb hby at_127) k) ?_
            show own_Go _ _ _ _ T209 (mkF m 129 #[.val (.int p_1), .val (.int p_2), .val (.int v2), .val (.int (64 : Int32)), .val (.int (1 : Int32)), .val (.ref b198), .val (.int r210), .unset, .unset] [(.int (8 : Int32))])
            refine own_go (fun _ k => XS.istore X209.here hx rfl (hb hby at_129) rfl (l' := #[.val (.int p_1), .val (.int p_2), .val (.int v2), .val (.int (64 : Int32)), .val (.int (1 : Int32)), .val (.ref b198), .val (.int r210), .val (.int (8 : Int32)), .unset]) rfl k) ?_
            show own_Go _ _ _ _ T209 (mkF m 131 #[.val (.int p_1), .val (.int p_2), .val (.int v2), .val (.int (64 : Int32)), .val (.int (1 : Int32)), .val (.ref b198), .val (.int r210), .val (.int (8 : Int32)), .unset] [])
            refine own_go (fun _ k => XS.bipush X209.here hx rfl (hb hby at_131) k) ?_
            show own_Go _ _ _ _ T209 (mkF m 133 #[.val (.int p_1), .val (.int p_2), .val (.int v2), .val (.int (64 : Int32)), .val (.int (1 : Int32)), .val (.ref b198), .val (.int r210), .val (.int (8 : Int32)), .unset] [(.int (8 : Int32))])
            refine own_go (fun _ k => XS.iload X209.here hx rfl (hb hby at_133) rfl k) ?_
            show own_Go _ _ _ _ T209 (mkF m 135 #[.val (.int p_1), .val (.int p_2), .val (.int v2), .val (.int (64 : Int32)), .val (.int (1 : Int32)), .val (.ref b198), .val (.int r210), .val (.int (8 : Int32)), .unset] [(.int r210), (.int (8 : Int32))])
            refine own_go (fun _ k => XS.imul X209.here hx rfl (hb hby at_135) rfl k) ?_
            show own_Go _ _ _ _ T209 (mkF m 136 #[.val (.int p_1), .val (.int p_2), .val (.int v2), .val (.int (64 : Int32)), .val (.int (1 : Int32)), .val (.ref b198), .val (.int r210), .val (.int (8 : Int32)), .unset] [(.int ((8 : Int32) * r210))])
            refine own_go (fun _ k => XS.iloadN X209.here hx rfl (hb hby at_136) rfl k) ?_
            show own_Go _ _ _ _ T209 (mkF m 137 #[.val (.int p_1), .val (.int p_2), .val (.int v2), .val (.int (64 : Int32)), .val (.int (1 : Int32)), .val (.ref b198), .val (.int r210), .val (.int (8 : Int32)), .unset] [(.int (64 : Int32)), (.int ((8 : Int32) * r210))])
            have hc215 : ¬ (((8 : Int32) * r210) < (64 : Int32)) := own_t0_27 r210 hr_r210
            refine own_go (fun _ k => XS.icmpNo X209.here hx rfl (hb hby at_137) rfl (Jvm.Free.XT.ii_lt_f hc215) k) ?_
            show own_Go _ _ _ _ T209 (mkF m 140 #[.val (.int p_1), .val (.int p_2), .val (.int v2), .val (.int (64 : Int32)), .val (.int (1 : Int32)), .val (.ref b198), .val (.int r210), .val (.int (8 : Int32)), .unset] [])
            refine own_go (fun _ k => XS.bipush X209.here hx rfl (hb hby at_140) k) ?_
            show own_Go _ _ _ _ T209 (mkF m 142 #[.val (.int p_1), .val (.int p_2), .val (.int v2), .val (.int (64 : Int32)), .val (.int (1 : Int32)), .val (.ref b198), .val (.int r210), .val (.int (8 : Int32)), .unset] [(.int (8 : Int32))])
            refine own_go (fun _ k => XS.iload X209.here hx rfl (hb hby at_142) rfl k) ?_
            show own_Go _ _ _ _ T209 (mkF m 144 #[.val (.int p_1), .val (.int p_2), .val (.int v2), .val (.int (64 : Int32)), .val (.int (1 : Int32)), .val (.ref b198), .val (.int r210), .val (.int (8 : Int32)), .unset] [(.int r210), (.int (8 : Int32))])
            refine own_go (fun _ k => XS.iconst X209.here hx rfl (hb hby at_144) k) ?_
            show own_Go _ _ _ _ T209 (mkF m 145 #[.val (.int p_1), .val (.int p_2), .val (.int v2), .val (.int (64 : Int32)), .val (.int (1 : Int32)), .val (.ref b198), .val (.int r210), .val (.int (8 : Int32)), .unset] [(.int (1 : Int32)), (.int r210), (.int (8 : Int32))])
            refine own_go (fun _ k => XS.isub X209.here hx rfl (hb hby at_145) rfl k) ?_
            show own_Go _ _ _ _ T209 (mkF m 146 #[.val (.int p_1), .val (.int p_2), .val (.int v2), .val (.int (64 : Int32)), .val (.int (1 : Int32)), .val (.ref b198), .val (.int r210), .val (.int (8 : Int32)), .unset] [(.int (r210 - (1 : Int32))), (.int (8 : Int32))])
            refine own_go (fun _ k => XS.imul X209.here hx rfl (hb hby at_146) rfl k) ?_
            show own_Go _ _ _ _ T209 (mkF m 147 #[.val (.int p_1), .val (.int p_2), .val (.int v2), .val (.int (64 : Int32)), .val (.int (1 : Int32)), .val (.ref b198), .val (.int r210), .val (.int (8 : Int32)), .unset] [(.int ((8 : Int32) * (r210 - (1 : Int32))))])
            refine own_go (fun _ k => XS.iloadN X209.here hx rfl (hb hby at_147) rfl k) ?_
            show own_Go _ _ _ _ T209 (mkF m 148 #[.val (.int p_1), .val (.int p_2), .val (.int v2), .val (.int (64 : Int32)), .val (.int (1 : Int32)), .val (.ref b198), .val (.int r210), .val (.int (8 : Int32)), .unset] [(.int (64 : Int32)), (.int ((8 : Int32) * (r210 - (1 : Int32))))])
            have hc216 : ((8 : Int32) * (r210 - (1 : Int32))) < (64 : Int32) := own_t0_28 r210 hr_r210 hc215
            refine own_go (fun _ k => XS.icmpNo X209.here hx rfl (hb hby at_148) rfl (Jvm.Free.XT.ii_ge_f hc216) k) ?_
            show own_Go _ _ _ _ T209 (mkF m 151 #[.val (.int p_1), .val (.int p_2), .val (.int v2), .val (.int (64 : Int32)), .val (.int (1 : Int32)), .val (.ref b198), .val (.int r210), .val (.int (8 : Int32)), .unset] [])
            refine own_go (fun _ k => XS.iconst X209.here hx rfl (hb hby at_151) k) ?_
            show own_Go _ _ _ _ T209 (mkF m 152 #[.val (.int p_1), .val (.int p_2), .val (.int v2), .val (.int (64 : Int32)), .val (.int (1 : Int32)), .val (.ref b198), .val (.int r210), .val (.int (8 : Int32)), .unset] [(.int (1 : Int32))])
            refine own_go (fun _ k => XS.goto X209.here hx rfl (pc0 := 152) (pc' := 156) rfl (hb hby at_152) (by decide) (by decide) k) ?_
            show own_Go _ _ _ _ T209 (mkF m 156 #[.val (.int p_1), .val (.int p_2), .val (.int v2), .val (.int (64 : Int32)), .val (.int (1 : Int32)), .val (.ref b198), .val (.int r210), .val (.int (8 : Int32)), .unset] [(.int (1 : Int32))])
            refine own_go (fun _ k => XS.istore X209.here hx rfl (hb hby at_156) rfl (l' := #[.val (.int p_1), .val (.int p_2), .val (.int v2), .val (.int (64 : Int32)), .val (.int (1 : Int32)), .val (.ref b198), .val (.int r210), .val (.int (8 : Int32)), .val (.int (1 : Int32))]) rfl k) ?_
            show own_Go _ _ _ _ T209 (mkF m 158 #[.val (.int p_1), .val (.int p_2), .val (.int v2), .val (.int (64 : Int32)), .val (.int (1 : Int32)), .val (.ref b198), .val (.int r210), .val (.int (8 : Int32)), .val (.int (1 : Int32))] [])
            refine own_go (fun _ k => XS.iload X209.here hx rfl (hb hby at_158) rfl k) ?_
            show own_Go _ _ _ _ T209 (mkF m 160 #[.val (.int p_1), .val (.int p_2), .val (.int v2), .val (.int (64 : Int32)), .val (.int (1 : Int32)), .val (.ref b198), .val (.int r210), .val (.int (8 : Int32)), .val (.int (1 : Int32))] [(.int r210)])
            refine own_go (fun _ k => XS.iload X209.here hx rfl (hb hby at_160) rfl k) ?_
            show own_Go _ _ _ _ T209 (mkF m 162 #[.val (.int p_1), .val (.int p_2), .val (.int v2), .val (.int (64 : Int32)), .val (.int (1 : Int32)), .val (.ref b198), .val (.int r210), .val (.int (8 : Int32)), .val (.int (1 : Int32))] [(.int (8 : Int32)), (.int r210)])
            have hc217 : r210 = (8 : Int32) := own_t0_29 r210 hr_r210 hc215 hc216
            refine own_go (fun _ k => XS.icmpNo X209.here hx rfl (hb hby at_162) rfl (Jvm.Free.XT.ii_ne_f hc217) k) ?_
            show own_Go _ _ _ _ T209 (mkF m 165 #[.val (.int p_1), .val (.int p_2), .val (.int v2), .val (.int (64 : Int32)), .val (.int (1 : Int32)), .val (.ref b198), .val (.int r210), .val (.int (8 : Int32)), .val (.int (1 : Int32))] [])
            refine own_go (fun _ k => XS.iload X209.here hx rfl (hb hby at_165) rfl k) ?_
            show own_Go _ _ _ _ T209 (mkF m 167 #[.val (.int p_1), .val (.int p_2), .val (.int v2), .val (.int (64 : Int32)), .val (.int (1 : Int32)), .val (.ref b198), .val (.int r210), .val (.int (8 : Int32)), .val (.int (1 : Int32))] [(.int (1 : Int32))])
            have hc218 : ¬ ((1 : Int32) = 0) := by decide
            refine own_go (fun _ k => XS.ifNo X209.here hx rfl (hb hby at_167) rfl (Jvm.Free.XT.i0_eq_f hc218) k) ?_
            show own_Go _ _ _ _ T209 (mkF m 170 #[.val (.int p_1), .val (.int p_2), .val (.int v2), .val (.int (64 : Int32)), .val (.int (1 : Int32)), .val (.ref b198), .val (.int r210), .val (.int (8 : Int32)), .val (.int (1 : Int32))] [])
            refine own_go (fun _ k => XS.iconst X209.here hx rfl (hb hby at_170) k) ?_
            show own_Go _ _ _ _ T209 (mkF m 171 #[.val (.int p_1), .val (.int p_2), .val (.int v2), .val (.int (64 : Int32)), .val (.int (1 : Int32)), .val (.ref b198), .val (.int r210), .val (.int (8 : Int32)), .val (.int (1 : Int32))] [(.int (1 : Int32))])
            refine own_go (fun _ k => XS.goto X209.here hx rfl (pc0 := 171) (pc' := 175) rfl (hb hby at_171) (by decide) (by decide) k) ?_
            show own_Go _ _ _ _ T209 (mkF m 175 #[.val (.int p_1), .val (.int p_2), .val (.int v2), .val (.int (64 : Int32)), .val (.int (1 : Int32)), .val (.ref b198), .val (.int r210), .val (.int (8 : Int32)), .val (.int (1 : Int32))] [(.int (1 : Int32))])
            obtain ⟨fs, hr, hrun, hended, hW, hsame⟩ := X209.leave (v := some (.int (1 : Int32))) (fun h => by rw [Bd.returns] at h; cases h)
            refine ⟨_, _, retOut X209 hx Bd.returns rfl (Or.inl ⟨rfl, Or.inr (Or.inl rfl), _, rfl⟩) (hb hby at_175) hr, hrun, hended, _, _, rfl, ?_, ⟨_, rfl⟩, hW, hsame.mono (by decide) (by decide)⟩
            show own_Q0 Z p_1 p_2 h0 n0 _ T209.heap _
            rw [e209]
            exact ⟨rfl, N209⟩
set_option maxRecDepth 65536 in
set_option maxHeartbeats 40000000 in
theorem comes_1 {Post : Tables → Env → Array Value → State → Outcome → State → Prop} (hpost : ∀ tb e args s v u, (limb_1_1.after args s (.returned v) u = true ∧ limb_1_2.after args s (.returned v) u = true ∧ True) → FrameEnd s (.returned v) u (Jvm.fieldLocs frame_1_writes args s ++ Jvm.arrayLocs frame_1_arrays args s ++ Jvm.staticLocs frame_1_statics s) 16 128 → Post tb e args s (.returned v) u) :
    ArmFor flags0 classFile x code maxLocals ret World_1 tables_1 room_1 Calls_1 rest_1 Pre_1 Post := by
  intro l hfl _ _ p e ha hc hk s m args below hf hA hF happ hP
  obtain ⟨hcalls, hrest, hpre⟩ := hP
  obtain ⟨-, -, -, hnamed, -, -, -, hat⟩ := (Spec.applies_iff hf).mp happ
  obtain ⟨hg, hn⟩ := and_e (Cond.before_iff.mp (show (Jvm.Cond.and given_1 narrow_1).before args s = true from hpre))
  obtain ⟨g1, g2⟩ := and_e hg
  obtain ⟨g3, g4⟩ := and_e g2
  obtain ⟨w0, w1, rfl⟩ : ∃ w0 w1 : Value, args = #[w0, w1] := by
    have hs : args.size = 2 := by simpa [Cond.value, given_1] using g1
    obtain ⟨L⟩ := args
    match L, hs with
    | [w0, w1], _ => exact ⟨w0, w1, rfl⟩
  have hw := fun d (hd : d ∈ tables_1) => atoms_spec (ws := Jvm.Cond.code x code maxLocals ret :: tables_1) hat d (List.mem_cons_of_mem _ hd)
  have hfit : Fit s := fun {y c} hc i hi => by
    obtain ⟨ha, rfl⟩ := Array.getElem?_eq_some_iff.mp hc
    have q := List.all_eq_true.mp ((Array.all_eq_true_iff_forall_mem.mp hF) _ (Array.getElem_mem ha)) i (List.mem_range.mpr hi)
    simpa [Array.getElem?_eq_getElem hi] using q
  obtain ⟨i0, ei0⟩ := is_v g3
  obtain rfl : w0 = (.int i0) := Option.some.inj ei0
  obtain ⟨i1, ei1⟩ := is_v g4
  obtain rfl : w1 = (.int i1) := Option.some.inj ei1
  obtain ⟨n, o, h1, h2, h3, _, L, rfl, ⟨rfl, N⟩, hq⟩ := own_rm0 l s _ hw tables_1 i0 i1  s.heap s.heap.size (Nat.le_refl _)  p e ha hc hk s m _ below hf ((Spec.applies_iff_loose hf).mp happ).1 ⟨rfl, State.Warmed39.refl s, rfl⟩ trivial
  refine ⟨n, _, h1, h2, h3, hpost _ _ _ _ _ _ ⟨Cond.after_iff.mpr rfl, Cond.after_iff.mpr (eq_i res_at (Term.int_eval (1)) rfl), trivial⟩ ⟨hq.1, hq.2.1, (hq.2.2.sift fun y hy => Or.inr (N y hy)).mono (by decide) (by decide)⟩⟩
theorem main_1_1 : Claimed_1_1 := comes_1 fun _ _ _ _ _ _ h hF => ⟨h.1, hF⟩
theorem main_1_2 : Claimed_1_2 := comes_1 fun _ _ _ _ _ _ h hF => ⟨h.2.1, hF⟩
end Jvm.Pilot.@@N@@
namespace Jvm.Pilot.@@N@@
open Jvm Jvm.ClassFile Sem Op Lib Jvm.Free Jvm.Stand Jvm.Pilot.@@N@@.Jvm.D
/-! MADE BY PROGRAM (witnessworld.py) out of the Statement's table words and the real class files: 11 classes; the members and pool entries that the words name. The judged class is class 1, her method 1. -/
namespace start1
open Jvm.ClassFile
def u (s : String) : CpInfo := .utf8 (stringToUtf16 s)
/-- a pool by its gaps: so many unusable entries, then the entry; so many at the end -/
def gap : Nat → List CpInfo → List CpInfo
  | 0, r => r
  | n + 1, r => .unusable :: gap n r
def poolList (es : List (Nat × CpInfo)) (last : Nat) : List CpInfo := es.foldr (fun e r => gap e.1 (e.2 :: r)) (gap last [])
def pool (es : List (Nat × CpInfo)) (last : Nat) : Array CpInfo := ⟨poolList es last⟩
def fileOf (pool : Array CpInfo) (this : Nat) (attrs : Array Attribute := #[]) (ms : Array MethodInfo := #[]) (fl : Nat := 33) (sup : Nat := 0) (ifs : Array Nat := #[]) (fds : Array FieldInfo := #[]) : ClassFile where
  minorVersion := 0
  majorVersion := 65
  constantPool := pool
  accessFlags := fl
  thisClass := this
  superClass := sup
  interfaces := ifs
  fields := fds
  methods := ms
  attributes := attrs
def plain (name : String) (sup : Option ClassId) : Class where
  name := name
  kind := .ordinary
  loader := none
  accessFlags := 33
  super := sup
  interfaces := #[]
  cf := none
  fields := #[]
  methods := #[]
  instanceTypes := #[]
  staticTypes := #[]
  resolved := #[]
  callSites := []
  init := .initialized
  statics := none
  mirror := none

def pool0 : Array CpInfo := pool [(5, u "<init>"), (0, u "()V"), (1, .class_ 10), (1, u "java/lang/Object")] 113

def k0c0 : Code := { maxStack := 0, maxLocals := 1, code := object_method_1_code, exceptionTable := #[], attributes := #[] }
def k0m0 : Method := { name := "<init>", desc := "()V", sig := { parameters := [], returnType := none }, accessFlags := 1, code := some k0c0 }
/-- java/lang/Object -/
def k0 : Class := { plain "java/lang/Object" none with
  accessFlags := 33
  interfaces := #[]
  cf := some (fileOf pool0 8 #[] #[{ accessFlags := 1, nameIndex := 5, descriptorIndex := 6, attributes := #[] }] 33 0 #[] #[])
  fields := #[]
  methods := #[k0m0]
  instanceTypes := #[]
  staticTypes := #[]
  resolved := Array.replicate 124 none
  statics := none }

def pool1 : Array CpInfo := pool [(2, .class_ 4), (1, u "java/lang/Object"), (0, u "<init>"), (0, u "()V"), (0, .integer 2147483647), (0, .class_ 9), (0, u "com/example/tessera/tessera/IntType"), (0, .methodref 8 11), (0, .nameAndType 5 12), (0, u "(IZ)V"), (0, .methodref 8 14), (0, .nameAndType 15 16), (0, u "fixedSize"), (0, u "()I"), (0, .class_ 18), (0, u "com/example/tessera/tessera/IntTypeFixedSizePinLaw"), (2, u "law"), (0, u "(II)Z")] 3

def k1m0 : Method := { name := "<init>", desc := "()V", sig := { parameters := [], returnType := none }, accessFlags := 2, code := none }
def k1c1 : Code := { maxStack := 4, maxLocals := 9, code := code, exceptionTable := #[], attributes := #[] }
def k1m1 : Method := { name := "law", desc := "(II)Z", sig := { parameters := [.int, .int], returnType := some .boolean }, accessFlags := 9, code := some k1c1 }
/-- com/example/tessera/tessera/IntTypeFixedSizePinLaw -/
def k1 : Class := { plain "com/example/tessera/tessera/IntTypeFixedSizePinLaw" (some 0) with
  accessFlags := 49
  interfaces := #[]
  cf := some (fileOf pool1 17 #[] #[{ accessFlags := 2, nameIndex := 5, descriptorIndex := 6, attributes := #[] }, { accessFlags := 9, nameIndex := 21, descriptorIndex := 22, attributes := #[] }] 49 2 #[] #[])
  fields := #[]
  methods := #[k1m0, k1m1]
  instanceTypes := #[]
  staticTypes := #[]
  resolved := Array.replicate 26 none
  statics := none }

def pool2 : Array CpInfo := pool [(1, .methodref 2 3), (0, .class_ 4), (0, .nameAndType 5 6), (0, u "java/lang/Object"), (0, u "<init>"), (0, u "()V"), (0, .class_ 8), (0, u "java/lang/Record")] 13

def k2c0 : Code := { maxStack := 1, maxLocals := 1, code := jdk_30_method_1_code, exceptionTable := #[], attributes := #[] }
def k2m0 : Method := { name := "<init>", desc := "()V", sig := { parameters := [], returnType := none }, accessFlags := 4, code := some k2c0 }
/-- java/lang/Record -/
def k2 : Class := { plain "java/lang/Record" (some 0) with
  accessFlags := 1057
  interfaces := #[]
  cf := some (fileOf pool2 7 #[] #[{ accessFlags := 4, nameIndex := 5, descriptorIndex := 6, attributes := #[] }] 1057 2 #[] #[])
  fields := #[]
  methods := #[k2m0]
  instanceTypes := #[]
  staticTypes := #[]
  resolved := Array.replicate 22 none
  statics := none }

def pool3 : Array CpInfo := pool [(1, .class_ 2), (0, u "com/example/tessera/tessera/Type"), (62, .class_ 66), (0, u "java/lang/Object"), (0, u "MAX_LEVELS"), (0, u "I"), (2, u "TOO_DEEP"), (0, u "Ljava/lang/String;")] 79

/-- com/example/tessera/tessera/Type -/
def k3 : Class := { plain "com/example/tessera/tessera/Type" (some 0) with
  accessFlags := 1536
  interfaces := #[]
  cf := some (fileOf pool3 1 #[] #[] 1536 65 #[] #[{ accessFlags := 25, nameIndex := 67, descriptorIndex := 68, attributes := #[] }, { accessFlags := 25, nameIndex := 71, descriptorIndex := 72, attributes := #[] }])
  fields := #[{ name := "MAX_LEVELS", type := .int, accessFlags := 25, slot := 0, constantValue := 0 }, { name := "TOO_DEEP", type := (.object "java/lang/String"), accessFlags := 25, slot := 1, constantValue := 0 }]
  methods := #[]
  instanceTypes := #[]
  staticTypes := #[.int, (.object "java/lang/String")]
  resolved := Array.replicate 152 none
  statics := none }

def pool4 : Array CpInfo := pool [(1, .methodref 2 3), (0, .class_ 4), (0, .nameAndType 5 6), (0, u "java/lang/Record"), (0, u "<init>"), (0, u "()V"), (9, .fieldref 17 18), (0, .class_ 19), (0, .nameAndType 20 21), (0, u "com/example/tessera/tessera/IntType"), (0, u "bits"), (0, u "I"), (0, .fieldref 17 23), (0, .nameAndType 24 25), (0, u "signed"), (0, u "Z"), (46, u "fixedSize"), (0, u "()I"), (50, .class_ 125), (0, u "com/example/tessera/tessera/Type"), (0, u "(IZ)V")] 56

def k4c0 : Code := { maxStack := 3, maxLocals := 3, code := prog_21_method_1_code, exceptionTable := #[], attributes := #[] }
def k4m0 : Method := { name := "<init>", desc := "(IZ)V", sig := { parameters := [.int, .boolean], returnType := none }, accessFlags := 0, code := some k4c0 }
def k4c1 : Code := { maxStack := 2, maxLocals := 1, code := prog_21_method_5_code, exceptionTable := #[], attributes := #[] }
def k4m1 : Method := { name := "fixedSize", desc := "()I", sig := { parameters := [], returnType := some .int }, accessFlags := 1, code := some k4c1 }
/-- com/example/tessera/tessera/IntType -/
def k4 : Class := { plain "com/example/tessera/tessera/IntType" (some 2) with
  accessFlags := 48
  interfaces := #[3]
  cf := some (fileOf pool4 17 #[] #[{ accessFlags := 0, nameIndex := 5, descriptorIndex := 126, attributes := #[] }, { accessFlags := 1, nameIndex := 72, descriptorIndex := 73, attributes := #[] }] 48 2 #[124] #[{ accessFlags := 18, nameIndex := 20, descriptorIndex := 21, attributes := #[] }, { accessFlags := 18, nameIndex := 24, descriptorIndex := 25, attributes := #[] }])
  fields := #[{ name := "bits", type := .int, accessFlags := 18, slot := 0, constantValue := 0 }, { name := "signed", type := .boolean, accessFlags := 18, slot := 1, constantValue := 0 }]
  methods := #[k4m0, k4m1]
  instanceTypes := #[.int, .boolean]
  staticTypes := #[]
  resolved := Array.replicate 183 none
  statics := none }

def pool5 : Array CpInfo := pool [(1, u "java/lang/Cloneable"), (0, .class_ 1), (0, u "java/lang/Object"), (0, .class_ 3)] 3

/-- java/lang/Cloneable -/
def k5 : Class := { plain "java/lang/Cloneable" (some 0) with
  accessFlags := 1537
  interfaces := #[]
  cf := some (fileOf pool5 2 #[] #[] 1537 4 #[] #[])
  fields := #[]
  methods := #[]
  instanceTypes := #[]
  staticTypes := #[]
  resolved := Array.replicate 8 none
  statics := none }

def pool6 : Array CpInfo := pool [(1, u "java/io/Serializable"), (0, .class_ 1), (0, u "java/lang/Object"), (0, .class_ 3)] 3

/-- java/io/Serializable -/
def k6 : Class := { plain "java/io/Serializable" (some 0) with
  accessFlags := 1537
  interfaces := #[]
  cf := some (fileOf pool6 2 #[] #[] 1537 4 #[] #[])
  fields := #[]
  methods := #[]
  instanceTypes := #[]
  staticTypes := #[]
  resolved := Array.replicate 8 none
  statics := none }

/-- the primitive byte -/
def k7 : Class := { plain "byte" none with kind := .primitive 'B', accessFlags := 0x411 }
/-- [B -/
def k8 : Class := { plain "[B" (some 0) with kind := .array 7 .byte, interfaces := #[5, 6], accessFlags := 1041 }

/-- the primitive int -/
def k9 : Class := { plain "int" none with kind := .primitive 'I', accessFlags := 0x411 }
/-- [I -/
def k10 : Class := { plain "[I" (some 0) with kind := .array 9 .int, interfaces := #[5, 6], accessFlags := 1041 }

def heap : Heap := #[]
def classes : Array Class := #[k0, k1, k2, k3, k4, k5, k6, k7, k8, k9, k10]
def interned : List (Array UInt16 × Addr) := []
def slotsUsed : Nat := 0
def theMethod : MethodId := ⟨1, 1⟩
def args0 : Array Value := #[.int 1, .int 2]
def aboutOver (below : List Frame) : State where
  vm := { classes := classes, interned := interned.toArray }
  heap := heap
  slotsUsed := slotsUsed
  threads := #[{ frames := .invoking theMethod args0 :: below }]
def below0 : List Frame := [.native { method := ⟨0, 0⟩, args := #[] }]
def about1 : State := aboutOver below0
def p0 : Program := .bare "" "" ""
def e0 : Env := launch0.env 0 0 0
theorem w_frames : about1.frames = Frame.invoking theMethod args0 :: below0 := rfl
set_option maxRecDepth 65536 in
theorem w_args : argsFit about1.vm theMethod args0 = true := by decide +kernel
set_option maxRecDepth 65536 in
theorem w_heap : heapFits about1 = true := by decide +kernel
set_option maxRecDepth 65536 in
theorem w_runnable : about1.curStatus? = some .runnable := by decide +kernel
set_option maxRecDepth 65536 in
theorem w_alone : about1.alone = true := by decide +kernel
set_option maxRecDepth 65536 in
theorem w_named : about1.methodNamed? x = some theMethod := by decide +kernel
set_option maxRecDepth 65536 in
theorem w_hears : about1.hears theMethod below0 = true := by decide +kernel
set_option maxRecDepth 65536 in
theorem w_ripe : about1.ripe theMethod args0 below0 = true := by decide +kernel
theorem w_running : about1.status = .running := rfl
set_option maxRecDepth 65536 in
theorem w_room : about1.hasRoom e0.platform room_1 = true :=
  launch0.hasRoom_least _ room_1 (by decide +kernel) (by decide +kernel) (by decide +kernel) (by decide +kernel) (by decide +kernel) (by decide +kernel)
theorem allAtoms_all (ts : List Jvm.Cond) (a : Array Jvm.Value) (st : Jvm.State) : (allAtoms ts).before a st = ts.all (fun c => c.before a st) := by
  induction ts with
  | nil => rfl
  | cons c t ih =>
    show (Jvm.Cond.and c (allAtoms t)).before a st = _
    rw [Jvm.Cond.before_and, ih, List.all_cons]
def words1 : List Jvm.Cond := Jvm.Cond.code x code maxLocals ret :: tables_1
/-- a 'code' word, met by the world's own term for the bytes: nothing is compared byte by byte -/
theorem code_word {y : MethodName} {bytes : ByteArray} {mx : Nat} {rt : Option FieldType} {a : Array Value} {s : State} {m : MethodId} {meth : Method} {c : Code} (h1 : s.methodNamed? y = some m) (h2 : s.vm.method? m = some meth) (h3 : meth.code = some c) (h4 : c.code = bytes)
    (h5 : (c.maxLocals == mx && c.exceptionTable.isEmpty && decide (c.maxStack ≤ mostOperands) && decide (meth.sig.returnType = rt) && !meth.locks && decide (parseMethodDescriptor y.desc = some meth.sig)) = true) : (Jvm.Cond.code y bytes mx rt).before a s = true := by
  simp only [Bool.and_eq_true, beq_iff_eq, Bool.not_eq_true', decide_eq_true_eq] at h5
  obtain ⟨⟨⟨⟨⟨g1, g2⟩, g3⟩, g4⟩, g5⟩, g6⟩ := h5
  simp [Cond.before, Cond.holds, Cond.value, h1, h2, h3, h4, g1, g2, g3, g4, g5, g6]
def isCode : Jvm.Cond → Bool
  | .code _ _ _ _ => true
  | _ => false
theorem all_split {L : List Jvm.Cond} {P : Jvm.Cond → Bool} (h1 : L.all (fun c => isCode c || P c) = true) (h2 : ∀ c ∈ L.filter isCode, P c = true) : L.all P = true := by
  refine List.all_eq_true.mpr fun c hc => ?_
  have h := List.all_eq_true.mp h1 c hc
  rcases Bool.eq_false_or_eq_true (isCode c) with hi | hi
  · exact h2 c (List.mem_filter.mpr ⟨hc, hi⟩)
  · simpa [hi] using h
set_option maxRecDepth 65536 in
theorem w_c0 : (Jvm.Cond.code x code maxLocals ret).before args0 about1 = true := code_word (m := ⟨1, 1⟩) (meth := k1m1) (c := k1c1) (by decide +kernel) rfl rfl rfl (by decide +kernel)
set_option maxRecDepth 65536 in
theorem w_c1 : (Jvm.Cond.code ({ cls := "com/example/tessera/tessera/IntType", name := "<init>", desc := "(IZ)V" } : Jvm.MethodName) prog_21_method_1_code (3 : Nat) (Option.none : Option Jvm.ClassFile.FieldType)).before args0 about1 = true := code_word (m := ⟨4, 0⟩) (meth := k4m0) (c := k4c0) (by decide +kernel) rfl rfl rfl (by decide +kernel)
set_option maxRecDepth 65536 in
theorem w_c2 : (Jvm.Cond.code ({ cls := "java/lang/Record", name := "<init>", desc := "()V" } : Jvm.MethodName) jdk_30_method_1_code (1 : Nat) (Option.none : Option Jvm.ClassFile.FieldType)).before args0 about1 = true := code_word (m := ⟨2, 0⟩) (meth := k2m0) (c := k2c0) (by decide +kernel) rfl rfl rfl (by decide +kernel)
set_option maxRecDepth 65536 in
theorem w_c3 : (Jvm.Cond.code ({ cls := "java/lang/Object", name := "<init>", desc := "()V" } : Jvm.MethodName) object_method_1_code (1 : Nat) (Option.none : Option Jvm.ClassFile.FieldType)).before args0 about1 = true := code_word (m := ⟨0, 0⟩) (meth := k0m0) (c := k0c0) (by decide +kernel) rfl rfl rfl (by decide +kernel)
set_option maxRecDepth 65536 in
theorem w_c4 : (Jvm.Cond.code ({ cls := "com/example/tessera/tessera/IntType", name := "fixedSize", desc := "()I" } : Jvm.MethodName) prog_21_method_5_code (1 : Nat) (Option.some Jvm.ClassFile.FieldType.int)).before args0 about1 = true := code_word (m := ⟨4, 1⟩) (meth := k4m1) (c := k4c1) (by decide +kernel) rfl rfl rfl (by decide +kernel)
def codes1 : List Jvm.Cond := [Jvm.Cond.code x code maxLocals ret, Jvm.Cond.code ({ cls := "com/example/tessera/tessera/IntType", name := "<init>", desc := "(IZ)V" } : Jvm.MethodName) prog_21_method_1_code (3 : Nat) (Option.none : Option Jvm.ClassFile.FieldType), Jvm.Cond.code ({ cls := "java/lang/Record", name := "<init>", desc := "()V" } : Jvm.MethodName) jdk_30_method_1_code (1 : Nat) (Option.none : Option Jvm.ClassFile.FieldType), Jvm.Cond.code ({ cls := "java/lang/Object", name := "<init>", desc := "()V" } : Jvm.MethodName) object_method_1_code (1 : Nat) (Option.none : Option Jvm.ClassFile.FieldType), Jvm.Cond.code ({ cls := "com/example/tessera/tessera/IntType", name := "fixedSize", desc := "()I" } : Jvm.MethodName) prog_21_method_5_code (1 : Nat) (Option.some Jvm.ClassFile.FieldType.int)]
set_option maxRecDepth 65536 in
theorem codes_eq : words1.filter isCode = codes1 := rfl
theorem w_codes : ∀ c ∈ words1.filter isCode, c.before args0 about1 = true := by
  rw [codes_eq]
  intro c hc
  simp only [codes1, List.mem_cons, List.not_mem_nil, or_false] at hc
  rcases hc with rfl | rfl | rfl | rfl | rfl
  · exact w_c0
  · exact w_c1
  · exact w_c2
  · exact w_c3
  · exact w_c4
set_option maxRecDepth 65536 in
theorem w_t1 : (words1.take 24).all (fun c => isCode c || c.before args0 about1) = true := by decide +kernel
set_option maxRecDepth 65536 in
theorem w_t2 : (words1.drop 24).all (fun c => isCode c || c.before args0 about1) = true := by decide +kernel
theorem w_tables : (allAtoms (Jvm.Cond.code x code maxLocals ret :: tables_1)).before args0 about1 = true := by
  rw [allAtoms_all]
  show words1.all (fun c => c.before args0 about1) = true
  refine all_split ?_ w_codes
  rw [← List.take_append_drop 24 words1, List.all_append, w_t1, w_t2]
  rfl
set_option maxRecDepth 65536 in
theorem w_case : (Jvm.Cond.and given_1 narrow_1).before args0 about1 = true := by decide +kernel
theorem w_applies : (headSpec (Jvm.Cond.code x code maxLocals ret :: tables_1) room_1).applies x e0.platform about1 = true :=
  (Spec.applies_iff w_frames).mpr ⟨w_running, w_runnable, w_alone, w_named, w_hears, w_ripe, w_room, w_tables⟩
theorem atStart : AtStart classFile x code maxLocals ret World_1 tables_1 room_1 Calls_1 rest_1 Pre_1 launch0 p0 e0 about1 theMethod args0 below0 :=
  ⟨lists_1, trivial, launch0.admits_env _ _ _, launch0.least_env, fairChoices_fair.cas, fairChoices_fair.clock, w_frames, w_args, w_heap, w_applies, trivial, trivial, w_case⟩
end start1
theorem witness_1 : WitnessClaimed_1 := ⟨start1.p0, start1.e0, start1.about1, start1.theMethod, start1.args0, start1.below0, start1.atStart⟩
end Jvm.Pilot.@@N@@
