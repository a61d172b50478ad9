import JvmDerived
import JvmDerived.Pilot.@@N@@Statement
import JvmDerived.Pilot.@@N@@Code
set_option linter.unusedVariables false
set_option linter.unusedSimpArgs false
namespace Jvm.Pilot.@@N@@
open Jvm Jvm.ClassFile Sem Op Lib Jvm.Free Jvm.Stand Jvm.LawKit Jvm.RoadKit Bundle Jvm.Pilot.@@N@@.Jvm.D
def own_Go (tb : Tables) (e : Env) (below : List Frame) (P : State → Outcome → Prop) (T : State) (g : JFrame) : Prop := ∃ t o, Steps tb e below (T.setTop g) t ∧ P t o
theorem own_go {tb : Tables} {e : Env} {below : List Frame} {P : State → Outcome → Prop} {T T' : State} {g g' : JFrame} (k : ∀ target, Steps tb e below (T'.setTop g') target → Steps tb e below (T.setTop g) target) (h : own_Go tb e below P T' g') : own_Go tb e below P T g := by
  obtain ⟨t, o, a, b⟩ := h
  exact ⟨t, o, k t a, b⟩
theorem own_cast {P Q : Prop} (h : P = Q) (p : P) : Q := h ▸ p
def own_upd (f : Nat → Value) (k : Nat) (v : Value) : Nat → Value := fun i => if i = k then v else f i
/-- an array of length z at a, its element i being f i -/
def own_AV (Z : State) (h : Heap) (a : Addr) (ty : FieldType) (z : Int32) (f : Nat → Value) : Prop := ¬ z < 0 ∧ ∃ c : Cell, Arr Z h a c ty ∧ c.slots.size = z.toNatClampNeg ∧ ∀ i, i < c.slots.size → c.slots[i]? = some (f i)
section
variable {Z : State} {h h' : Heap} {a b : Addr} {ty : FieldType} {z j : Int32} {f : Nat → Value} {v w : Value} {sl k : Nat} {ws : List Addr} {cA : ClassId}
theorem own_AV.lt (F : own_AV Z h a ty z f) : a < h.size := by obtain ⟨_, c, A, -⟩ := F; exact A.lt
theorem own_AV.ext (F : own_AV Z h a ty z f) (E : Ext h h') : own_AV Z h' a ty z f := by obtain ⟨q, c, A, r⟩ := F; exact ⟨q, c, A.ext E, r⟩
theorem own_AV.other (F : own_AV Z h b ty z f) (W : Wr h h' a sl v) (q : b ≠ a) : own_AV Z h' b ty z f := by obtain ⟨q1, c, A, r⟩ := F; exact ⟨q1, c, A.other W q, r⟩
theorem own_AV.keep (F : own_AV Z h a ty z f) (K : Keep h h' ws) (q : a ∉ ws) : own_AV Z h' a ty z f := by obtain ⟨q1, c, A, r⟩ := F; exact ⟨q1, c, ⟨K.2.1 a c A.1 q, A.2⟩, r⟩
theorem own_AV.new (A : Arr Z h a (newA cA ty z) ty) (q : ¬ z < 0) : own_AV Z h a ty z (fun _ => defaultValue ty) :=
  ⟨q, _, A, sz_new _ _ _, fun i hi => by
    rw [sz_new] at hi
    simp [newA, hi]⟩
theorem own_AV.set (F : own_AV Z h a ty z f) (W : Wr h h' a j.toNatClampNeg v) (hk : j.toNatClampNeg = k) : own_AV Z h' a ty z (own_upd f k v) := by
  obtain ⟨q, c, A, s, t⟩ := F
  subst hk
  refine ⟨q, _, A.same W, by rw [sz_set]; exact s, fun i hi => ?_⟩
  rw [sz_set] at hi
  by_cases e : i = j.toNatClampNeg
  · subst e; simp [own_upd, Cell.setSlot, hi]
  · simp only [own_upd, if_neg e, Cell.setSlot]
    rw [Array.getElem?_setIfInBounds_ne (Ne.symm e)]; exact t i hi
theorem own_at {c : Cell} (t : ∀ i, i < c.slots.size → c.slots[i]? = some (f i)) (s : c.slots.size = z.toNatClampNeg) (hin : ¬ (j < 0 ∨ c.slots.size ≤ j.toNatClampNeg)) (hk : j.toNatClampNeg = k) (hv : f k = v) : c.slots[j.toNatClampNeg]? = some v := by
  rw [t _ (Nat.lt_of_not_le fun q => hin (Or.inr q)), hk, hv]
theorem own_sta_keep {C n d : String} (F : Sta Z h C n d w) (K : Keep h h' ws) (q : ∀ x ∈ ws, ∀ c : Cell, h[x]? = some c → c.vm.isStatics = false) : Sta Z h' C n d w := by
  obtain ⟨cf, i, k, f, st, cell, h1, h2, h3, h4, h5, h6, h7⟩ := F
  exact ⟨cf, i, k, f, st, cell, h1, h2, h3, h4, K.2.1 st cell h5 (fun m => by rw [q st m cell h5] at h6; cases h6), h6, h7⟩
theorem own_exa_plain {C : String} (F : Exa Z h a C) : ∀ c : Cell, h[a]? = some c → c.vm.isStatics = false := fun c hc => by
  obtain ⟨c1, k, h1, -, -, h4, -⟩ := F; cases h1.symm.trans hc; exact h4
theorem own_AV.plain (F : own_AV Z h a ty z f) : ∀ c : Cell, h[a]? = some c → c.vm.isStatics = false := fun c hc => by
  obtain ⟨_, c1, A, -⟩ := F; cases A.1.symm.trans hc; exact A.plain
end
theorem own_narb {x : Int32} (h : x = 0 ∨ x = 1) : nar .boolean x = x := by rcases h with rfl | rfl <;> rfl
theorem own_exa_ref {args : Array Value} {s : State} {t : Term} {C : String} (hx : (Jvm.Cond.exactly t C).value args s none s [] = some true) : ∃ a, t.eval args s none [] s = some (.ref a) ∧ Exa s s.heap a C := by
  obtain ⟨a', c', cell, k, e1, -⟩ := Cond.exactly_spec (Cond.before_iff.mpr hx)
  exact ⟨a', e1, Exa.start e1 hx⟩
theorem own_eq_int {args : Array Value} {s : State} {t : Term} {k : Int32} (h : (Jvm.Cond.eq t (Jvm.Term.int k)).value args s none s [] = some true) : t.eval args s none [] s = some (.int k) := by
  cases hv : t.eval args s none [] s with
  | none => simp [Cond.value, hv] at h
  | some v => cases v <;> simp [Cond.value, hv, Term.eval] at h <;> simp [h]
theorem own_fld_int {args : Array Value} {s : State} {t : Term} {C n d : String} {a : Addr} {k : Int32} (ev : t.eval args s none [] s = some (.ref a)) (h : (Jvm.Cond.eq (Jvm.Term.field t C n d) (Jvm.Term.int k)).value args s none s [] = some true) : Fld s s.heap a C n d (.int k) :=
  Fld.start ((fld_at ev).symm.trans (own_eq_int h))
theorem own_nar_c (x : Int32) : nar .char (x.toUInt32.toUInt16.toUInt32.toInt32) = x.toUInt32.toUInt16.toUInt32.toInt32 := Value.int.inj (Jvm.Free.XT.narrow_c x)
theorem own_nar_b (x : Int32) : nar .byte (x.toInt8.toInt32) = x.toInt8.toInt32 := Value.int.inj (Jvm.Free.XT.narrow_b x)
theorem own_NSroot {Z : State} {a0 : Array Value} {O K : String} {n : Nat} (w : (Jvm.Cond.noSuperclass O).before a0 Z = true) (wk : (Jvm.Cond.instantiable K n).before a0 Z = true) (hn : O ≠ K) : NS Z O K := by
  obtain ⟨c, k, h1, h2, h3, -, -⟩ := Cond.noSuperclass_spec w
  obtain ⟨t, kt, g1, -⟩ := Cond.instantiable_spec wk
  have ne := ids_ne h1 g1 hn
  refine ⟨c, t, h1, g1, fun fuel => ?_⟩
  cases fuel with
  | zero => rfl
  | succ f => simp [Vm.isSubclassAux, ne, h2, h3]
theorem own_NSno {Z : State} {a0 : Array Value} {C S K : String} {m : Nat} (w : (Jvm.Cond.superclass C S).before a0 Z = true) (wk : (Jvm.Cond.instantiable K m).before a0 Z = true) (n : NS Z C K) (hn : C ≠ K) : ∃ c t, Z.vm.findClass C = some c ∧ Z.vm.findClass K = some t ∧ Z.vm.assignable c t = false := by
  obtain ⟨c, t, h0, g0, n3⟩ := n
  obtain ⟨p, k, kp, h1, h2, h3, h4, h5, -, h7⟩ := Cond.superclass_spec h0 w
  obtain ⟨t', k', g1, g2, g5, g7, -⟩ := Cond.instantiable_spec wk
  cases g0.symm.trans g1
  have g8 : k'.isInterface = false := by
    cases hi : k'.isInterface <;> simp [hi] at g7 ⊢
  have ne := ids_ne h0 g0 hn
  refine ⟨c, t, h0, g0, ?_⟩
  show Z.vm.assignableAux (255 + 1) c t = false
  simp [Vm.assignableAux, ne, h2, g2, h5, g5, g8, Vm.isSubclass, n3]
theorem own_monoW {s t : State} {o : Outcome} {L : List Loc} {k n k' n' : Nat} (h : ReturnedEndW s o t L k n) (hk : k ≤ k') (hn : n ≤ n') : ReturnedEndW s o t L k' n' := ⟨h.1, h.2.1, h.2.2.1, h.2.2.2.mono hk hn⟩
theorem own_ldcSL {p : Program} {l : Launch} {e : Env} {R : Room} {s : State} {vm0 : Vm} {m : MethodId} {args : Array Value} {below : List Frame} {meth : Method} {c : Code} {T : State} {locs : List Loc} {cells slots : Nat} {Z : State} {a0 : Array Value} {h : Heap}
    (X : Stand p l e R (s.setVm vm0) m args below meth c T locs cells slots) (hx : p.tables.exec = Jvm.exec) (hZ : Z.Warmed39 vm0) {own text : String} {index : Nat} (hown : vm0.findClass own = some m.cls) (w : (Jvm.Cond.stringLink own index text).before a0 Z = true) (wS : ∀ a ∈ Bundle.stringAtoms, a.before a0 Z = true)
    (eT : T.heap = h) {k0 : Nat} (hS : s.Since vm0 k0) (hk : k0 ≤ h.size) {g : JFrame} (hg : g.method = m) (hd : decode c.code g.pc = .ok (.ldc index, 2)) {n : Nat} (hn : 4 * text.toList.length ≤ n) (hbig : n ≤ 536870912) (hc : cells + 2 ≤ R.cells) (hl : slots + (n + 4) ≤ R.slots) :
    ∃ (a : Addr) (T' : State) (h' : Heap) (k1 : Nat), Stand p l e R (s.setVm T'.vm) m args below meth c T' locs (cells + 2) (slots + (n + 4)) ∧ T'.heap = h' ∧ Ext h h' ∧ s.Since T'.vm k1 ∧ k1 ≤ h'.size ∧ Z.Warmed39 (s.setVm T'.vm).vm ∧ (s.setVm T'.vm).vm.findClass own = some m.cls ∧ Lit (s.setVm T'.vm) own index a ∧ (s.setVm vm0).Warmed39 T'.vm ∧
      ∀ target, Steps p.tables e below (T'.setTop { g with pc := g.pc + 2, stack := .ref a :: g.stack }) target → Steps p.tables e below (T.setTop g) target := by
  have wS' : ∀ d ∈ Bundle.stringAtoms, d.before args (s.setVm vm0) = true := fun d hd => by
    have q := wS d hd
    simp only [Bundle.stringAtoms, List.mem_cons, List.not_mem_nil, or_false] at hd
    rcases hd with rfl | rfl | rfl | rfl | rfl | rfl | rfl
    · exact mv (s := s.setVm vm0) hZ q
    · exact mv (s := s.setVm vm0) hZ q
    · exact mvA (s := s.setVm vm0) hZ q
    · exact mv (s := s.setVm vm0) hZ q
    · exact mv (s := s.setVm vm0) hZ q
    · exact mv (s := s.setVm vm0) hZ q
    · exact mv (s := s.setVm vm0) hZ q
  obtain ⟨a, T', X', hS', ⟨kk, hkk, hrr⟩, hb, -, st⟩ := X.ldcStringCold hx (own := own) hown (mvS hZ w) wS' hg hd hn hbig hc hl
  subst eT
  have hf : T'.vm.findClass own = some m.cls := by rw [hS'.1.alike.findClass]; exact hown
  exact ⟨a, T', _, _, X', rfl, ext_of hb, hS.trans hS' (Nat.le_trans hk (ext_of hb).1), Nat.le_refl _, State.Warmed39.trans (t := s.setVm vm0) hZ hS'.1, hf, by simp [Lit, State.resolvedAt?, hf, hkk, hrr], hS'.1, st⟩
theorem own_selfsel {Z s : State} {a0 args : Array Value} {y : MethodName} {n : Nat} (hZ : Z.Warmed39 s.vm) (wi : (Jvm.Cond.instantiable y.cls n).before a0 Z = true) (wm : (Jvm.Cond.instanceMethod y).before a0 Z = true) (wp : (Jvm.Cond.privateMethod y).before a0 Z = true) (hy : y.cls ≠ "java/lang/invoke/MethodHandle" ∧ y.cls ≠ "java/lang/invoke/VarHandle") : (Jvm.Cond.selects y.cls y y).before args s = true := by
  obtain ⟨c, k, h1, h2, -, h4, -⟩ := Cond.instantiable_spec (mvT (args := args) hZ wi)
  have g8 : k.isInterface = false := by
    cases hi : k.isInterface <;> simp [hi] at h4 ⊢
  exact selects_self_of_private h1 h2 g8 (Cond.privateMethod_at (mvP hZ wp (args := #[]))) (mvT hZ wm) hy
theorem own_addeq {k a b m n : Nat} (h : k = a + b) (h1 : a = m) (h2 : m + b = n) : k = n := by subst h1; exact h.trans h2

theorem own_pn0 : plainName "com/example/tessera/tessera/ByteSource" = true := by first | (simp [plainName, overriddenIn]; done) | decide +kernel
theorem own_pn1 : plainName "com/example/tessera/tessera/ByteSourceMarkReadPinLaw" = true := by first | (simp [plainName, overriddenIn]; done) | decide +kernel
theorem own_pd0 : parseMethodDescriptor "([B)V" = some ⟨[(.array .byte)], none⟩ := by decide +kernel
theorem own_pd1 : parseMethodDescriptor "(J)V" = some ⟨[.long], none⟩ := by decide +kernel
theorem own_pd2 : parseMethodDescriptor "(JJ)V" = some ⟨[.long, .long], none⟩ := by decide +kernel
theorem own_pd3 : parseMethodDescriptor "(IJ)V" = some ⟨[.int, .long], none⟩ := by decide +kernel
theorem own_d1_0 : decode prog_15_method_1_code 0 = .ok (.aload_n 0, 1) := by decide +kernel
theorem own_d1_1 : decode prog_15_method_1_code 1 = .ok (.invokespecial 1, 3) := by decide +kernel
theorem own_d1_4 : decode prog_15_method_1_code 4 = .ok (.aload_n 0, 1) := by decide +kernel
theorem own_d1_5 : decode prog_15_method_1_code 5 = .ok (.iconst 1, 1) := by decide +kernel
theorem own_d1_6 : decode prog_15_method_1_code 6 = .ok (.putfield 7, 3) := by decide +kernel
theorem own_d1_9 : decode prog_15_method_1_code 9 = .ok (.aload_n 0, 1) := by decide +kernel
theorem own_d1_10 : decode prog_15_method_1_code 10 = .ok (.aload_n 1, 1) := by decide +kernel
theorem own_d1_11 : decode prog_15_method_1_code 11 = .ok (.putfield 13, 3) := by decide +kernel
theorem own_d1_14 : decode prog_15_method_1_code 14 = .ok (.return_, 1) := by decide +kernel
theorem own_ef_own_rm1 (m : MethodId) (x0 : Addr) (x1 : Addr) : entryFrame m #[(.ref x0), (.ref x1)] 2 = mkF m 0 #[.val (.ref x0), .val (.ref x1)] [] := by first | (simp [entryFrame, mkF, argsToLocals, Value.category]; done) | rfl
def own_Q1 (Z : State) (a_1 : Addr) (a_2 : Addr) (w_dataEndExact_a_1 : Int32) (w_bytes_a_1 : Value) (w_dataEnd_a_1 : Int64) (h0 : Heap) (n0 : Nat) (v : Option Value) (h : Heap) (L : List Loc) : Prop := v = none ∧ Fr n0 L ∧ Keep h0 h [a_1] ∧ Exa Z h a_1 "com/example/tessera/tessera/ByteSource" ∧ Fld Z h a_1 "com/example/tessera/tessera/ByteSource" "dataEndExact" "Z" (.int (1 : Int32)) ∧ Fld Z h a_1 "com/example/tessera/tessera/ByteSource" "bytes" "[B" (.ref a_2) ∧ Fld Z h a_1 "com/example/tessera/tessera/ByteSource" "dataEnd" "J" (.long w_dataEnd_a_1)
set_option maxRecDepth 65536 in
set_option maxHeartbeats 40000000 in
theorem own_rm1 (l : Launch) (Z : State) (a0 : Array Value) (hw : ∀ d ∈ tables_1, d.before a0 Z = true) (ws : List Jvm.Cond) (a_1 : Addr) (a_2 : Addr) (w_dataEndExact_a_1 : Int32) (w_bytes_a_1 : Value) (w_dataEnd_a_1 : Int64) (h0 : Heap) (n0 : Nat) (Z0 : n0 ≤ h0.size) (pr_E_a_1 : Exa Z h0 a_1 "com/example/tessera/tessera/ByteSource") (pr_F_a_1_dataEndExact : Fld Z h0 a_1 "com/example/tessera/tessera/ByteSource" "dataEndExact" "Z" (.int w_dataEndExact_a_1)) (pr_F_a_1_bytes : Fld Z h0 a_1 "com/example/tessera/tessera/ByteSource" "bytes" "[B" w_bytes_a_1) (pr_F_a_1_dataEnd : Fld Z h0 a_1 "com/example/tessera/tessera/ByteSource" "dataEnd" "J" (.long w_dataEnd_a_1)) (gw_a_1 : n0 ≤ a_1) :
    MetFree l (⟨"com/example/tessera/tessera/ByteSource", "<init>", "([B)V"⟩ : MethodName) (head1 (Jvm.Cond.code (⟨"com/example/tessera/tessera/ByteSource", "<init>", "([B)V"⟩ : MethodName) prog_15_method_1_code 2 none :: ws) ({ frames := 1, cells := 0, slots := 0, locals := 12 } : Room)) (fun a U => a = #[(.ref a_1), (.ref a_2)] ∧ Z.Warmed39 U.vm ∧ U.heap = h0) (fun _ _ _ _ _ => True) (fun _ U o U' => ∃ v L, o = .returned v ∧ own_Q1 Z a_1 a_2 w_dataEndExact_a_1 w_bytes_a_1 w_dataEnd_a_1 h0 n0 v U'.heap L ∧ FrameEnd U o U' L ({ frames := 1, cells := 0, slots := 0, locals := 12 } : Room).cells ({ frames := 1, cells := 0, slots := 0, locals := 12 } : Room).slots) := by
  refine MetFree.of_bodySF (plainFor_of_name own_pn0) hisR ?_
  intro p e s m args below meth c s₁ Bd hml0 hP hK
  obtain ⟨rfl, hZ, hh⟩ := hP
  have hx := Bd.exec
  have hby := Bd.bytes
  have hml : c.maxLocals = 2 := hml0
  have hown : s.vm.findClass "com/example/tessera/tessera/ByteSource" = some m.cls := findClass_of_methodNamed Bd.named
  have hnm := (name_of_methodNamed Bd.named Bd.method).1
  have X0 : Stand p l e ({ frames := 1, cells := 0, slots := 0, locals := 12 } : Room) s m #[(.ref a_1), (.ref a_2)] below meth c s₁ [] 0 0 := Stand.of_body Bd
  have e0 : s₁.heap = h0 := by rw [← hh, Bd.state]; rfl
  have N0 := Fr.nil n0
  have z0 : n0 ≤ h0.size := Z0
  have z1 := pr_E_a_1.lt
  have z2 := pr_F_a_1_dataEndExact.lt
  have z3 := pr_F_a_1_bytes.lt
  have z4 := pr_F_a_1_dataEnd.lt
  have K0 : Keep h0 h0 [a_1] := Keep.refl h0 _
  show own_Go p.tables e below (fun t o => t.status = .running ∧ Ended t below o ∧ ∃ v L, o = .returned v ∧ own_Q1 Z a_1 a_2 w_dataEndExact_a_1 w_bytes_a_1 w_dataEnd_a_1 h0 n0 v t.heap L ∧ FrameEnd s o t L ({ frames := 1, cells := 0, slots := 0, locals := 12 } : Room).cells ({ frames := 1, cells := 0, slots := 0, locals := 12 } : Room).slots) s₁ (entryFrame m #[(.ref a_1), (.ref a_2)] 2)
  rw [own_ef_own_rm1 m a_1 a_2]
  show own_Go _ _ _ _ s₁ (mkF m 0 #[.val (.ref a_1), .val (.ref a_2)] [])
  refine own_go (fun _ k => XS.aloadN X0.here hx rfl (hb hby own_d1_0) rfl rfl k) ?_
  show own_Go _ _ _ _ s₁ (mkF m 1 #[.val (.ref a_1), .val (.ref a_2)] [(.ref a_1)])
  obtain ⟨T5, X5, e5, st5⟩ := initO X0 hx hZ hown (hw _ (List.mem_of_getElem? (i := 7) rfl)) (hw _ (List.mem_of_getElem? (i := 8) rfl)) (hw _ (List.mem_of_getElem? (i := 9) rfl)) e0 (g := (mkF m 1 #[.val (.ref a_1), .val (.ref a_2)] [(.ref a_1)])) rfl (by rw [hml]; rfl) rfl (hb hby own_d1_1) (by decide) (W := 0) (by show 2 * 0 + _ ≤ _; exact Nat.le_of_eq rfl) (by decide)
  refine own_go (fun _ k => st5 _ k) ?_
  show own_Go _ _ _ _ T5 (mkF m 4 #[.val (.ref a_1), .val (.ref a_2)] [])
  refine own_go (fun _ k => XS.aloadN X5.here hx rfl (hb hby own_d1_4) rfl rfl k) ?_
  show own_Go _ _ _ _ T5 (mkF m 5 #[.val (.ref a_1), .val (.ref a_2)] [(.ref a_1)])
  refine own_go (fun _ k => XS.iconst X5.here hx rfl (hb hby own_d1_5) k) ?_
  show own_Go _ _ _ _ T5 (mkF m 6 #[.val (.ref a_1), .val (.ref a_2)] [(.int (1 : Int32)), (.ref a_1)])
  obtain ⟨T6, h6, X6, e6, W6, st6⟩ := putFN X5 hx hZ hown (hw _ (List.mem_of_getElem? (i := 10) rfl)) Via.refl e5 pr_F_a_1_dataEndExact pr_E_a_1 (Or.inl (hw _ (List.mem_of_getElem? (i := 11) rfl))) (hw _ (List.mem_of_getElem? (i := 1) rfl)) (ty := .boolean) (v' := .int (1 : Int32)) (by decide) (rfl) (fits_nar_bool (1 : Int32)) (g := (mkF m 6 #[.val (.ref a_1), .val (.ref a_2)] [(.int (1 : Int32)), (.ref a_1)])) rfl rfl (hb hby own_d1_6)
  have z7 := W6.size
  have K6 : Keep h0 h6 [a_1] := K0.wr W6 (Or.inl (List.mem_of_getElem? (i := 0) rfl))
  have N6 := Fr.snoc X6 N0 (by omega : n0 ≤ a_1)
  have Fw6 : Fld Z h6 a_1 "com/example/tessera/tessera/ByteSource" "dataEndExact" "Z" (.int (1 : Int32)) := Fld.same W6 pr_F_a_1_dataEndExact
  refine own_go (fun _ k => st6 _ k) ?_
  show own_Go _ _ _ _ T6 (mkF m 9 #[.val (.ref a_1), .val (.ref a_2)] [])
  refine own_go (fun _ k => XS.aloadN X6.here hx rfl (hb hby own_d1_9) rfl rfl k) ?_
  show own_Go _ _ _ _ T6 (mkF m 10 #[.val (.ref a_1), .val (.ref a_2)] [(.ref a_1)])
  refine own_go (fun _ k => XS.aloadN X6.here hx rfl (hb hby own_d1_10) rfl rfl k) ?_
  show own_Go _ _ _ _ T6 (mkF m 11 #[.val (.ref a_1), .val (.ref a_2)] [(.ref a_2), (.ref a_1)])
  have f8 : Exa Z h6 a_1 "com/example/tessera/tessera/ByteSource" := (pr_E_a_1.wr W6)
  have f9 : Fld Z h6 a_1 "com/example/tessera/tessera/ByteSource" "bytes" "[B" w_bytes_a_1 := (pr_F_a_1_bytes.other W6 (Or.inr (slot_ne (Or.inr (hw _ (List.mem_of_getElem? (i := 13) rfl))) (Or.inl (hw _ (List.mem_of_getElem? (i := 11) rfl))) (by decide) (t := (.array .byte)) (t' := .boolean) (by decide) (by decide))))
  obtain ⟨T10, h10, X10, e10, W10, st10⟩ := putF X6 hx hZ hown (host := "") (Or.inl (hw _ (List.mem_of_getElem? (i := 12) rfl))) Via.refl e6 f9 f8 (Or.inr ⟨(hw _ (List.mem_of_getElem? (i := 13) rfl)), rfl, hnm⟩) (hw _ (List.mem_of_getElem? (i := 1) rfl)) (ty := (.array .byte)) (by decide) rfl rfl (g := (mkF m 11 #[.val (.ref a_1), .val (.ref a_2)] [(.ref a_2), (.ref a_1)])) rfl rfl (hb hby own_d1_11)
  have z11 := W10.size
  have K10 : Keep h0 h10 [a_1] := K6.wr W10 (Or.inl (List.mem_of_getElem? (i := 0) rfl))
  have N10 := Fr.snoc X10 N6 (by omega : n0 ≤ a_1)
  have Fw10 : Fld Z h10 a_1 "com/example/tessera/tessera/ByteSource" "bytes" "[B" (.ref a_2) := Fld.same W10 f9
  refine own_go (fun _ k => st10 _ k) ?_
  show own_Go _ _ _ _ T10 (mkF m 14 #[.val (.ref a_1), .val (.ref a_2)] [])
  obtain ⟨fs, hr, hrun, hended, hW, hsame⟩ := X10.leave (v := none) (fun _ => rfl)
  refine ⟨_, _, X10.returnOut hx Bd.returns (hb hby own_d1_14) hr, hrun, hended, _, _, rfl, ?_, ⟨_, rfl⟩, hW, hsame.mono (by decide) (by decide)⟩
  show own_Q1 Z a_1 a_2 w_dataEndExact_a_1 w_bytes_a_1 w_dataEnd_a_1 h0 n0 _ T10.heap _
  rw [e10]
  have f13 : Exa Z h10 a_1 "com/example/tessera/tessera/ByteSource" := (f8.wr W10)
  have f14 : Fld Z h10 a_1 "com/example/tessera/tessera/ByteSource" "dataEndExact" "Z" (.int (1 : Int32)) := (Fw6.other W10 (Or.inr (slot_ne (Or.inl (hw _ (List.mem_of_getElem? (i := 11) rfl))) (Or.inr (hw _ (List.mem_of_getElem? (i := 13) rfl))) (by decide) (t := .boolean) (t' := (.array .byte)) (by decide) (by decide))))
  have f15 : Fld Z h10 a_1 "com/example/tessera/tessera/ByteSource" "dataEnd" "J" (.long w_dataEnd_a_1) := ((pr_F_a_1_dataEnd.other W6 (Or.inr (slot_ne (Or.inl (hw _ (List.mem_of_getElem? (i := 20) rfl))) (Or.inl (hw _ (List.mem_of_getElem? (i := 11) rfl))) (by decide) (t := .long) (t' := .boolean) (by decide) (by decide)))).other W10 (Or.inr (slot_ne (Or.inl (hw _ (List.mem_of_getElem? (i := 20) rfl))) (Or.inr (hw _ (List.mem_of_getElem? (i := 13) rfl))) (by decide) (t := .long) (t' := (.array .byte)) (by decide) (by decide))))
  exact ⟨rfl, N10, K10, f13, f14, Fw10, f15⟩
theorem own_d3_0 : decode prog_15_method_11_code 0 = .ok (.aload_n 0, 1) := by decide +kernel
theorem own_d3_1 : decode prog_15_method_11_code 1 = .ok (.lload_n 1, 1) := by decide +kernel
theorem own_d3_2 : decode prog_15_method_11_code 2 = .ok (.lload_n 3, 1) := by decide +kernel
theorem own_d3_3 : decode prog_15_method_11_code 3 = .ok (.ladd, 1) := by decide +kernel
theorem own_d3_4 : decode prog_15_method_11_code 4 = .ok (.putfield 121, 3) := by decide +kernel
theorem own_d3_7 : decode prog_15_method_11_code 7 = .ok (.aload_n 0, 1) := by decide +kernel
theorem own_d3_8 : decode prog_15_method_11_code 8 = .ok (.iconst 1, 1) := by decide +kernel
theorem own_d3_9 : decode prog_15_method_11_code 9 = .ok (.putfield 7, 3) := by decide +kernel
theorem own_d3_12 : decode prog_15_method_11_code 12 = .ok (.return_, 1) := by decide +kernel
theorem own_ef_own_rm3 (m : MethodId) (x0 : Addr) (x1 : Int64) (x2 : Int64) : entryFrame m #[(.ref x0), (.long x1), (.long x2)] 5 = mkF m 0 #[.val (.ref x0), .val (.long x1), .second, .val (.long x2), .second] [] := by first | (simp [entryFrame, mkF, argsToLocals, Value.category]; done) | rfl
def own_Q3 (Z : State) (a_1 : Addr) (q_2 : Int64) (q_3 : Int64) (w_dataEndExact_a_1 : Int32) (w_bytes_a_1 : Value) (w_dataEnd_a_1 : Int64) (h0 : Heap) (n0 : Nat) (v : Option Value) (h : Heap) (L : List Loc) : Prop := v = none ∧ Fr n0 L ∧ Keep h0 h [a_1] ∧ Exa Z h a_1 "com/example/tessera/tessera/ByteSource" ∧ Fld Z h a_1 "com/example/tessera/tessera/ByteSource" "dataEndExact" "Z" (.int (1 : Int32)) ∧ Fld Z h a_1 "com/example/tessera/tessera/ByteSource" "bytes" "[B" w_bytes_a_1 ∧ Fld Z h a_1 "com/example/tessera/tessera/ByteSource" "dataEnd" "J" (.long (q_2 + q_3))
set_option maxRecDepth 65536 in
set_option maxHeartbeats 40000000 in
theorem own_rm3 (l : Launch) (Z : State) (a0 : Array Value) (hw : ∀ d ∈ tables_1, d.before a0 Z = true) (ws : List Jvm.Cond) (a_1 : Addr) (q_2 : Int64) (q_3 : Int64) (w_dataEndExact_a_1 : Int32) (w_bytes_a_1 : Value) (w_dataEnd_a_1 : Int64) (h0 : Heap) (n0 : Nat) (Z0 : n0 ≤ h0.size) (pr_E_a_1 : Exa Z h0 a_1 "com/example/tessera/tessera/ByteSource") (pr_F_a_1_dataEndExact : Fld Z h0 a_1 "com/example/tessera/tessera/ByteSource" "dataEndExact" "Z" (.int w_dataEndExact_a_1)) (pr_F_a_1_bytes : Fld Z h0 a_1 "com/example/tessera/tessera/ByteSource" "bytes" "[B" w_bytes_a_1) (pr_F_a_1_dataEnd : Fld Z h0 a_1 "com/example/tessera/tessera/ByteSource" "dataEnd" "J" (.long w_dataEnd_a_1)) (gw_a_1 : n0 ≤ a_1) :
    MetFree l (⟨"com/example/tessera/tessera/ByteSource", "markRead", "(JJ)V"⟩ : MethodName) (head1 (Jvm.Cond.code (⟨"com/example/tessera/tessera/ByteSource", "markRead", "(JJ)V"⟩ : MethodName) prog_15_method_11_code 5 none :: ws) ({ frames := 0, cells := 0, slots := 0, locals := 0 } : Room)) (fun a U => a = #[(.ref a_1), (.long q_2), (.long q_3)] ∧ Z.Warmed39 U.vm ∧ U.heap = h0) (fun _ _ _ _ _ => True) (fun _ U o U' => ∃ v L, o = .returned v ∧ own_Q3 Z a_1 q_2 q_3 w_dataEndExact_a_1 w_bytes_a_1 w_dataEnd_a_1 h0 n0 v U'.heap L ∧ FrameEnd U o U' L ({ frames := 0, cells := 0, slots := 0, locals := 0 } : Room).cells ({ frames := 0, cells := 0, slots := 0, locals := 0 } : Room).slots) := by
  refine MetFree.of_bodySF (plainFor_of_name own_pn0) hisR ?_
  intro p e s m args below meth c s₁ Bd hml0 hP hK
  obtain ⟨rfl, hZ, hh⟩ := hP
  have hx := Bd.exec
  have hby := Bd.bytes
  have hml : c.maxLocals = 5 := hml0
  have hown : s.vm.findClass "com/example/tessera/tessera/ByteSource" = some m.cls := findClass_of_methodNamed Bd.named
  have hnm := (name_of_methodNamed Bd.named Bd.method).1
  have X0 : Stand p l e ({ frames := 0, cells := 0, slots := 0, locals := 0 } : Room) s m #[(.ref a_1), (.long q_2), (.long q_3)] below meth c s₁ [] 0 0 := Stand.of_body Bd
  have e0 : s₁.heap = h0 := by rw [← hh, Bd.state]; rfl
  have N0 := Fr.nil n0
  have z0 : n0 ≤ h0.size := Z0
  have z1 := pr_E_a_1.lt
  have z2 := pr_F_a_1_dataEndExact.lt
  have z3 := pr_F_a_1_bytes.lt
  have z4 := pr_F_a_1_dataEnd.lt
  have K0 : Keep h0 h0 [a_1] := Keep.refl h0 _
  show own_Go p.tables e below (fun t o => t.status = .running ∧ Ended t below o ∧ ∃ v L, o = .returned v ∧ own_Q3 Z a_1 q_2 q_3 w_dataEndExact_a_1 w_bytes_a_1 w_dataEnd_a_1 h0 n0 v t.heap L ∧ FrameEnd s o t L ({ frames := 0, cells := 0, slots := 0, locals := 0 } : Room).cells ({ frames := 0, cells := 0, slots := 0, locals := 0 } : Room).slots) s₁ (entryFrame m #[(.ref a_1), (.long q_2), (.long q_3)] 5)
  rw [own_ef_own_rm3 m a_1 q_2 q_3]
  show own_Go _ _ _ _ s₁ (mkF m 0 #[.val (.ref a_1), .val (.long q_2), .second, .val (.long q_3), .second] [])
  refine own_go (fun _ k => XS.aloadN X0.here hx rfl (hb hby own_d3_0) rfl rfl k) ?_
  show own_Go _ _ _ _ s₁ (mkF m 1 #[.val (.ref a_1), .val (.long q_2), .second, .val (.long q_3), .second] [(.ref a_1)])
  refine own_go (fun _ k => XS.lloadN X0.here hx rfl (hb hby own_d3_1) rfl k) ?_
  show own_Go _ _ _ _ s₁ (mkF m 2 #[.val (.ref a_1), .val (.long q_2), .second, .val (.long q_3), .second] [(.long q_2), (.ref a_1)])
  refine own_go (fun _ k => XS.lloadN X0.here hx rfl (hb hby own_d3_2) rfl k) ?_
  show own_Go _ _ _ _ s₁ (mkF m 3 #[.val (.ref a_1), .val (.long q_2), .second, .val (.long q_3), .second] [(.long q_3), (.long q_2), (.ref a_1)])
  refine own_go (fun _ k => XS.ladd X0.here hx rfl (hb hby own_d3_3) rfl k) ?_
  show own_Go _ _ _ _ s₁ (mkF m 4 #[.val (.ref a_1), .val (.long q_2), .second, .val (.long q_3), .second] [(.long (q_2 + q_3)), (.ref a_1)])
  obtain ⟨T5, h5, X5, e5, W5, st5⟩ := putF X0 hx hZ hown (host := "") (Or.inl (hw _ (List.mem_of_getElem? (i := 19) rfl))) Via.refl e0 pr_F_a_1_dataEnd pr_E_a_1 (Or.inl (hw _ (List.mem_of_getElem? (i := 20) rfl))) (hw _ (List.mem_of_getElem? (i := 1) rfl)) (ty := .long) (by decide) rfl rfl (g := (mkF m 4 #[.val (.ref a_1), .val (.long q_2), .second, .val (.long q_3), .second] [(.long (q_2 + q_3)), (.ref a_1)])) rfl rfl (hb hby own_d3_4)
  have z6 := W5.size
  have K5 : Keep h0 h5 [a_1] := K0.wr W5 (Or.inl (List.mem_of_getElem? (i := 0) rfl))
  have N5 := Fr.snoc X5 N0 (by omega : n0 ≤ a_1)
  have Fw5 : Fld Z h5 a_1 "com/example/tessera/tessera/ByteSource" "dataEnd" "J" (.long (q_2 + q_3)) := Fld.same W5 pr_F_a_1_dataEnd
  refine own_go (fun _ k => st5 _ k) ?_
  show own_Go _ _ _ _ T5 (mkF m 7 #[.val (.ref a_1), .val (.long q_2), .second, .val (.long q_3), .second] [])
  refine own_go (fun _ k => XS.aloadN X5.here hx rfl (hb hby own_d3_7) rfl rfl k) ?_
  show own_Go _ _ _ _ T5 (mkF m 8 #[.val (.ref a_1), .val (.long q_2), .second, .val (.long q_3), .second] [(.ref a_1)])
  refine own_go (fun _ k => XS.iconst X5.here hx rfl (hb hby own_d3_8) k) ?_
  show own_Go _ _ _ _ T5 (mkF m 9 #[.val (.ref a_1), .val (.long q_2), .second, .val (.long q_3), .second] [(.int (1 : Int32)), (.ref a_1)])
  have f7 : Exa Z h5 a_1 "com/example/tessera/tessera/ByteSource" := (pr_E_a_1.wr W5)
  have f8 : Fld Z h5 a_1 "com/example/tessera/tessera/ByteSource" "dataEndExact" "Z" (.int w_dataEndExact_a_1) := (pr_F_a_1_dataEndExact.other W5 (Or.inr (slot_ne (Or.inl (hw _ (List.mem_of_getElem? (i := 11) rfl))) (Or.inl (hw _ (List.mem_of_getElem? (i := 20) rfl))) (by decide) (t := .boolean) (t' := .long) (by decide) (by decide))))
  obtain ⟨T9, h9, X9, e9, W9, st9⟩ := putFN X5 hx hZ hown (hw _ (List.mem_of_getElem? (i := 10) rfl)) Via.refl e5 f8 f7 (Or.inl (hw _ (List.mem_of_getElem? (i := 11) rfl))) (hw _ (List.mem_of_getElem? (i := 1) rfl)) (ty := .boolean) (v' := .int (1 : Int32)) (by decide) (rfl) (fits_nar_bool (1 : Int32)) (g := (mkF m 9 #[.val (.ref a_1), .val (.long q_2), .second, .val (.long q_3), .second] [(.int (1 : Int32)), (.ref a_1)])) rfl rfl (hb hby own_d3_9)
  have z10 := W9.size
  have K9 : Keep h0 h9 [a_1] := K5.wr W9 (Or.inl (List.mem_of_getElem? (i := 0) rfl))
  have N9 := Fr.snoc X9 N5 (by omega : n0 ≤ a_1)
  have Fw9 : Fld Z h9 a_1 "com/example/tessera/tessera/ByteSource" "dataEndExact" "Z" (.int (1 : Int32)) := Fld.same W9 f8
  refine own_go (fun _ k => st9 _ k) ?_
  show own_Go _ _ _ _ T9 (mkF m 12 #[.val (.ref a_1), .val (.long q_2), .second, .val (.long q_3), .second] [])
  obtain ⟨fs, hr, hrun, hended, hW, hsame⟩ := X9.leave (v := none) (fun _ => rfl)
  refine ⟨_, _, X9.returnOut hx Bd.returns (hb hby own_d3_12) hr, hrun, hended, _, _, rfl, ?_, ⟨_, rfl⟩, hW, hsame.mono (by decide) (by decide)⟩
  show own_Q3 Z a_1 q_2 q_3 w_dataEndExact_a_1 w_bytes_a_1 w_dataEnd_a_1 h0 n0 _ T9.heap _
  rw [e9]
  have f12 : Exa Z h9 a_1 "com/example/tessera/tessera/ByteSource" := (f7.wr W9)
  have f13 : Fld Z h9 a_1 "com/example/tessera/tessera/ByteSource" "bytes" "[B" w_bytes_a_1 := ((pr_F_a_1_bytes.other W5 (Or.inr (slot_ne (Or.inr (hw _ (List.mem_of_getElem? (i := 13) rfl))) (Or.inl (hw _ (List.mem_of_getElem? (i := 20) rfl))) (by decide) (t := (.array .byte)) (t' := .long) (by decide) (by decide)))).other W9 (Or.inr (slot_ne (Or.inr (hw _ (List.mem_of_getElem? (i := 13) rfl))) (Or.inl (hw _ (List.mem_of_getElem? (i := 11) rfl))) (by decide) (t := (.array .byte)) (t' := .boolean) (by decide) (by decide))))
  have f14 : Fld Z h9 a_1 "com/example/tessera/tessera/ByteSource" "dataEnd" "J" (.long (q_2 + q_3)) := (Fw5.other W9 (Or.inr (slot_ne (Or.inl (hw _ (List.mem_of_getElem? (i := 20) rfl))) (Or.inl (hw _ (List.mem_of_getElem? (i := 11) rfl))) (by decide) (t := .long) (t' := .boolean) (by decide) (by decide))))
  exact ⟨rfl, N9, K9, f12, Fw9, f13, f14⟩
theorem own_d4_0 : decode prog_15_method_15_code 0 = .ok (.aload_n 0, 1) := by decide +kernel
theorem own_d4_1 : decode prog_15_method_15_code 1 = .ok (.getfield 7, 3) := by decide +kernel
theorem own_d4_4 : decode prog_15_method_15_code 4 = .ok (.ifCond .eq 32, 3) := by decide +kernel
theorem own_d4_7 : decode prog_15_method_15_code 7 = .ok (.lload_n 2, 1) := by decide +kernel
theorem own_d4_8 : decode prog_15_method_15_code 8 = .ok (.aload_n 0, 1) := by decide +kernel
theorem own_d4_9 : decode prog_15_method_15_code 9 = .ok (.getfield 121, 3) := by decide +kernel
theorem own_d4_12 : decode prog_15_method_15_code 12 = .ok (.lcmp, 1) := by decide +kernel
theorem own_d4_13 : decode prog_15_method_15_code 13 = .ok (.ifCond .eq 23, 3) := by decide +kernel
theorem own_d4_36 : decode prog_15_method_15_code 36 = .ok (.lload_n 2, 1) := by decide +kernel
theorem own_d4_37 : decode prog_15_method_15_code 37 = .ok (.aload_n 0, 1) := by decide +kernel
theorem own_d4_38 : decode prog_15_method_15_code 38 = .ok (.getfield 121, 3) := by decide +kernel
theorem own_d4_41 : decode prog_15_method_15_code 41 = .ok (.lcmp, 1) := by decide +kernel
theorem own_d4_42 : decode prog_15_method_15_code 42 = .ok (.ifCond .ge 23, 3) := by decide +kernel
theorem own_d4_65 : decode prog_15_method_15_code 65 = .ok (.return_, 1) := by decide +kernel
theorem own_ef_own_rm4 (m : MethodId) (x0 : Addr) (x1 : Int32) (x2 : Int64) : entryFrame m #[(.ref x0), (.int x1), (.long x2)] 4 = mkF m 0 #[.val (.ref x0), .val (.int x1), .val (.long x2), .second] [] := by first | (simp [entryFrame, mkF, argsToLocals, Value.category]; done) | rfl
set_option maxRecDepth 65536 in
set_option maxHeartbeats 4000000 in
theorem own_t4_0 (q_3 : Int64) (w_dataEnd_a_1 : Int64) (he : q_3 = w_dataEnd_a_1) : ¬ (q_3 < w_dataEnd_a_1) := by
  grind
set_option maxRecDepth 65536 in
set_option maxHeartbeats 4000000 in
theorem own_t4_1 (q_3 : Int64) (w_dataEnd_a_1 : Int64) (he : q_3 = w_dataEnd_a_1) : ¬ (q_3 < w_dataEnd_a_1) := by
  grind
def own_Q4 (Z : State) (a_1 : Addr) (p_2 : Int32) (q_3 : Int64) (w_dataEndExact_a_1 : Int32) (w_dataEnd_a_1 : Int64) (h0 : Heap) (n0 : Nat) (v : Option Value) (h : Heap) (L : List Loc) : Prop := v = none ∧ Fr n0 L ∧ h = h0
set_option maxRecDepth 65536 in
set_option maxHeartbeats 40000000 in
theorem own_rm4 (l : Launch) (Z : State) (a0 : Array Value) (hw : ∀ d ∈ tables_1, d.before a0 Z = true) (ws : List Jvm.Cond) (a_1 : Addr) (p_2 : Int32) (q_3 : Int64) (w_dataEndExact_a_1 : Int32) (w_dataEnd_a_1 : Int64) (h0 : Heap) (n0 : Nat) (Z0 : n0 ≤ h0.size) (he : q_3 = w_dataEnd_a_1) (pr_F_a_1_dataEndExact : Fld Z h0 a_1 "com/example/tessera/tessera/ByteSource" "dataEndExact" "Z" (.int w_dataEndExact_a_1)) (pr_F_a_1_dataEnd : Fld Z h0 a_1 "com/example/tessera/tessera/ByteSource" "dataEnd" "J" (.long w_dataEnd_a_1)) :
    MetFree l (⟨"com/example/tessera/tessera/ByteSource", "requireTarget", "(IJ)V"⟩ : MethodName) (head1 (Jvm.Cond.code (⟨"com/example/tessera/tessera/ByteSource", "requireTarget", "(IJ)V"⟩ : MethodName) prog_15_method_15_code 4 none :: ws) ({ frames := 0, cells := 0, slots := 0, locals := 0 } : Room)) (fun a U => a = #[(.ref a_1), (.int p_2), (.long q_3)] ∧ Z.Warmed39 U.vm ∧ U.heap = h0) (fun _ _ _ _ _ => True) (fun _ U o U' => ∃ v L, o = .returned v ∧ own_Q4 Z a_1 p_2 q_3 w_dataEndExact_a_1 w_dataEnd_a_1 h0 n0 v U'.heap L ∧ FrameEnd U o U' L ({ frames := 0, cells := 0, slots := 0, locals := 0 } : Room).cells ({ frames := 0, cells := 0, slots := 0, locals := 0 } : Room).slots) := by
  refine MetFree.of_bodySF (plainFor_of_name own_pn0) hisR ?_
  intro p e s m args below meth c s₁ Bd hml0 hP hK
  obtain ⟨rfl, hZ, hh⟩ := hP
  have hx := Bd.exec
  have hby := Bd.bytes
  have hml : c.maxLocals = 4 := hml0
  have hown : s.vm.findClass "com/example/tessera/tessera/ByteSource" = some m.cls := findClass_of_methodNamed Bd.named
  have hnm := (name_of_methodNamed Bd.named Bd.method).1
  have X0 : Stand p l e ({ frames := 0, cells := 0, slots := 0, locals := 0 } : Room) s m #[(.ref a_1), (.int p_2), (.long q_3)] below meth c s₁ [] 0 0 := Stand.of_body Bd
  have e0 : s₁.heap = h0 := by rw [← hh, Bd.state]; rfl
  have N0 := Fr.nil n0
  have z0 : n0 ≤ h0.size := Z0
  have z1 := pr_F_a_1_dataEndExact.lt
  have z2 := pr_F_a_1_dataEnd.lt
  show own_Go p.tables e below (fun t o => t.status = .running ∧ Ended t below o ∧ ∃ v L, o = .returned v ∧ own_Q4 Z a_1 p_2 q_3 w_dataEndExact_a_1 w_dataEnd_a_1 h0 n0 v t.heap L ∧ FrameEnd s o t L ({ frames := 0, cells := 0, slots := 0, locals := 0 } : Room).cells ({ frames := 0, cells := 0, slots := 0, locals := 0 } : Room).slots) s₁ (entryFrame m #[(.ref a_1), (.int p_2), (.long q_3)] 4)
  rw [own_ef_own_rm4 m a_1 p_2 q_3]
  show own_Go _ _ _ _ s₁ (mkF m 0 #[.val (.ref a_1), .val (.int p_2), .val (.long q_3), .second] [])
  refine own_go (fun _ k => XS.aloadN X0.here hx rfl (hb hby own_d4_0) rfl rfl k) ?_
  show own_Go _ _ _ _ s₁ (mkF m 1 #[.val (.ref a_1), .val (.int p_2), .val (.long q_3), .second] [(.ref a_1)])
  obtain ⟨T3, X3, e3, st3⟩ := getF X0 hx hZ hown (host := "") (Or.inl (hw _ (List.mem_of_getElem? (i := 10) rfl))) Via.refl e0 pr_F_a_1_dataEndExact (g := (mkF m 1 #[.val (.ref a_1), .val (.int p_2), .val (.long q_3), .second] [(.ref a_1)])) rfl rfl (hb hby own_d4_1)
  refine own_go (fun _ k => st3 _ k) ?_
  show own_Go _ _ _ _ T3 (mkF m 4 #[.val (.ref a_1), .val (.int p_2), .val (.long q_3), .second] [(.int w_dataEndExact_a_1)])
  by_cases hc4 : w_dataEndExact_a_1 = 0
  · refine own_go (fun _ k => XS.ifYes X3.here hx rfl (pc0 := 4) (pc' := 36) rfl (hb hby own_d4_4) rfl (Jvm.Free.XT.i0_eq_t hc4) (by decide) (by decide) k) ?_
    show own_Go _ _ _ _ T3 (mkF m 36 #[.val (.ref a_1), .val (.int p_2), .val (.long q_3), .second] [])
    refine own_go (fun _ k => XS.lloadN X3.here hx rfl (hb hby own_d4_36) rfl k) ?_
    show own_Go _ _ _ _ T3 (mkF m 37 #[.val (.ref a_1), .val (.int p_2), .val (.long q_3), .second] [(.long q_3)])
    refine own_go (fun _ k => XS.aloadN X3.here hx rfl (hb hby own_d4_37) rfl rfl k) ?_
    show own_Go _ _ _ _ T3 (mkF m 38 #[.val (.ref a_1), .val (.int p_2), .val (.long q_3), .second] [(.ref a_1), (.long q_3)])
    obtain ⟨T5, X5, e5, st5⟩ := getF X3 hx hZ hown (host := "") (Or.inl (hw _ (List.mem_of_getElem? (i := 19) rfl))) Via.refl e3 pr_F_a_1_dataEnd (g := (mkF m 38 #[.val (.ref a_1), .val (.int p_2), .val (.long q_3), .second] [(.ref a_1), (.long q_3)])) rfl rfl (hb hby own_d4_38)
    refine own_go (fun _ k => st5 _ k) ?_
    show own_Go _ _ _ _ T5 (mkF m 41 #[.val (.ref a_1), .val (.int p_2), .val (.long q_3), .second] [(.long w_dataEnd_a_1), (.long q_3)])
    refine own_go (fun _ k => XS.lcmp X5.here hx rfl (hb hby own_d4_41) rfl k) ?_
    show own_Go _ _ _ _ T5 (mkF m 42 #[.val (.ref a_1), .val (.int p_2), .val (.long q_3), .second] [(.int (lcmpW q_3 w_dataEnd_a_1))])
    have hc6 : ¬ (q_3 < w_dataEnd_a_1) := own_t4_0 q_3 w_dataEnd_a_1 he
    refine own_go (fun _ k => XS.ifYes X5.here hx rfl (pc0 := 42) (pc' := 65) rfl (hb hby own_d4_42) rfl (Jvm.Free.XT.ll_ge_t hc6) (by decide) (by decide) k) ?_
    show own_Go _ _ _ _ T5 (mkF m 65 #[.val (.ref a_1), .val (.int p_2), .val (.long q_3), .second] [])
    obtain ⟨fs, hr, hrun, hended, hW, hsame⟩ := X5.leave (v := none) (fun _ => rfl)
    refine ⟨_, _, X5.returnOut hx Bd.returns (hb hby own_d4_65) hr, hrun, hended, _, _, rfl, ?_, ⟨_, rfl⟩, hW, hsame.mono (by decide) (by decide)⟩
    show own_Q4 Z a_1 p_2 q_3 w_dataEndExact_a_1 w_dataEnd_a_1 h0 n0 _ T5.heap _
    rw [e5]
    exact ⟨rfl, N0, rfl⟩
  · refine own_go (fun _ k => XS.ifNo X3.here hx rfl (hb hby own_d4_4) rfl (Jvm.Free.XT.i0_eq_f hc4) k) ?_
    show own_Go _ _ _ _ T3 (mkF m 7 #[.val (.ref a_1), .val (.int p_2), .val (.long q_3), .second] [])
    refine own_go (fun _ k => XS.lloadN X3.here hx rfl (hb hby own_d4_7) rfl k) ?_
    show own_Go _ _ _ _ T3 (mkF m 8 #[.val (.ref a_1), .val (.int p_2), .val (.long q_3), .second] [(.long q_3)])
    refine own_go (fun _ k => XS.aloadN X3.here hx rfl (hb hby own_d4_8) rfl rfl k) ?_
    show own_Go _ _ _ _ T3 (mkF m 9 #[.val (.ref a_1), .val (.int p_2), .val (.long q_3), .second] [(.ref a_1), (.long q_3)])
    obtain ⟨T8, X8, e8, st8⟩ := getF X3 hx hZ hown (host := "") (Or.inl (hw _ (List.mem_of_getElem? (i := 19) rfl))) Via.refl e3 pr_F_a_1_dataEnd (g := (mkF m 9 #[.val (.ref a_1), .val (.int p_2), .val (.long q_3), .second] [(.ref a_1), (.long q_3)])) rfl rfl (hb hby own_d4_9)
    refine own_go (fun _ k => st8 _ k) ?_
    show own_Go _ _ _ _ T8 (mkF m 12 #[.val (.ref a_1), .val (.int p_2), .val (.long q_3), .second] [(.long w_dataEnd_a_1), (.long q_3)])
    refine own_go (fun _ k => XS.lcmp X8.here hx rfl (hb hby own_d4_12) rfl k) ?_
    show own_Go _ _ _ _ T8 (mkF m 13 #[.val (.ref a_1), .val (.int p_2), .val (.long q_3), .second] [(.int (lcmpW q_3 w_dataEnd_a_1))])
    refine own_go (fun _ k => XS.ifYes X8.here hx rfl (pc0 := 13) (pc' := 36) rfl (hb hby own_d4_13) rfl (Jvm.Free.XT.ll_eq_t he) (by decide) (by decide) k) ?_
    show own_Go _ _ _ _ T8 (mkF m 36 #[.val (.ref a_1), .val (.int p_2), .val (.long q_3), .second] [])
    refine own_go (fun _ k => XS.lloadN X8.here hx rfl (hb hby own_d4_36) rfl k) ?_
    show own_Go _ _ _ _ T8 (mkF m 37 #[.val (.ref a_1), .val (.int p_2), .val (.long q_3), .second] [(.long q_3)])
    refine own_go (fun _ k => XS.aloadN X8.here hx rfl (hb hby own_d4_37) rfl rfl k) ?_
    show own_Go _ _ _ _ T8 (mkF m 38 #[.val (.ref a_1), .val (.int p_2), .val (.long q_3), .second] [(.ref a_1), (.long q_3)])
    obtain ⟨T10, X10, e10, st10⟩ := getF X8 hx hZ hown (host := "") (Or.inl (hw _ (List.mem_of_getElem? (i := 19) rfl))) Via.refl e8 pr_F_a_1_dataEnd (g := (mkF m 38 #[.val (.ref a_1), .val (.int p_2), .val (.long q_3), .second] [(.ref a_1), (.long q_3)])) rfl rfl (hb hby own_d4_38)
    refine own_go (fun _ k => st10 _ k) ?_
    show own_Go _ _ _ _ T10 (mkF m 41 #[.val (.ref a_1), .val (.int p_2), .val (.long q_3), .second] [(.long w_dataEnd_a_1), (.long q_3)])
    refine own_go (fun _ k => XS.lcmp X10.here hx rfl (hb hby own_d4_41) rfl k) ?_
    show own_Go _ _ _ _ T10 (mkF m 42 #[.val (.ref a_1), .val (.int p_2), .val (.long q_3), .second] [(.int (lcmpW q_3 w_dataEnd_a_1))])
    have hc11 : ¬ (q_3 < w_dataEnd_a_1) := own_t4_1 q_3 w_dataEnd_a_1 he
    refine own_go (fun _ k => XS.ifYes X10.here hx rfl (pc0 := 42) (pc' := 65) rfl (hb hby own_d4_42) rfl (Jvm.Free.XT.ll_ge_t hc11) (by decide) (by decide) k) ?_
    show own_Go _ _ _ _ T10 (mkF m 65 #[.val (.ref a_1), .val (.int p_2), .val (.long q_3), .second] [])
    obtain ⟨fs, hr, hrun, hended, hW, hsame⟩ := X10.leave (v := none) (fun _ => rfl)
    refine ⟨_, _, X10.returnOut hx Bd.returns (hb hby own_d4_65) hr, hrun, hended, _, _, rfl, ?_, ⟨_, rfl⟩, hW, hsame.mono (by decide) (by decide)⟩
    show own_Q4 Z a_1 p_2 q_3 w_dataEndExact_a_1 w_dataEnd_a_1 h0 n0 _ T10.heap _
    rw [e10]
    exact ⟨rfl, N0, rfl⟩
theorem own_d5_0 : decode prog_15_method_12_code 0 = .ok (.aload_n 0, 1) := by decide +kernel
theorem own_d5_1 : decode prog_15_method_12_code 1 = .ok (.lload_n 1, 1) := by decide +kernel
theorem own_d5_2 : decode prog_15_method_12_code 2 = .ok (.putfield 121, 3) := by decide +kernel
theorem own_d5_5 : decode prog_15_method_12_code 5 = .ok (.aload_n 0, 1) := by decide +kernel
theorem own_d5_6 : decode prog_15_method_12_code 6 = .ok (.iconst 0, 1) := by decide +kernel
theorem own_d5_7 : decode prog_15_method_12_code 7 = .ok (.putfield 7, 3) := by decide +kernel
theorem own_d5_10 : decode prog_15_method_12_code 10 = .ok (.return_, 1) := by decide +kernel
theorem own_ef_own_rm5 (m : MethodId) (x0 : Addr) (x1 : Int64) : entryFrame m #[(.ref x0), (.long x1)] 3 = mkF m 0 #[.val (.ref x0), .val (.long x1), .second] [] := by first | (simp [entryFrame, mkF, argsToLocals, Value.category]; done) | rfl
def own_Q5 (Z : State) (a_1 : Addr) (q_2 : Int64) (w_dataEndExact_a_1 : Int32) (w_bytes_a_1 : Value) (w_dataEnd_a_1 : Int64) (h0 : Heap) (n0 : Nat) (v : Option Value) (h : Heap) (L : List Loc) : Prop := v = none ∧ Fr n0 L ∧ Keep h0 h [a_1] ∧ Exa Z h a_1 "com/example/tessera/tessera/ByteSource" ∧ Fld Z h a_1 "com/example/tessera/tessera/ByteSource" "dataEndExact" "Z" (.int (0 : Int32)) ∧ Fld Z h a_1 "com/example/tessera/tessera/ByteSource" "bytes" "[B" w_bytes_a_1 ∧ Fld Z h a_1 "com/example/tessera/tessera/ByteSource" "dataEnd" "J" (.long q_2)
set_option maxRecDepth 65536 in
set_option maxHeartbeats 40000000 in
theorem own_rm5 (l : Launch) (Z : State) (a0 : Array Value) (hw : ∀ d ∈ tables_1, d.before a0 Z = true) (ws : List Jvm.Cond) (a_1 : Addr) (q_2 : Int64) (w_dataEndExact_a_1 : Int32) (w_bytes_a_1 : Value) (w_dataEnd_a_1 : Int64) (h0 : Heap) (n0 : Nat) (Z0 : n0 ≤ h0.size) (pr_E_a_1 : Exa Z h0 a_1 "com/example/tessera/tessera/ByteSource") (pr_F_a_1_dataEndExact : Fld Z h0 a_1 "com/example/tessera/tessera/ByteSource" "dataEndExact" "Z" (.int w_dataEndExact_a_1)) (pr_F_a_1_bytes : Fld Z h0 a_1 "com/example/tessera/tessera/ByteSource" "bytes" "[B" w_bytes_a_1) (pr_F_a_1_dataEnd : Fld Z h0 a_1 "com/example/tessera/tessera/ByteSource" "dataEnd" "J" (.long w_dataEnd_a_1)) (gw_a_1 : n0 ≤ a_1) :
    MetFree l (⟨"com/example/tessera/tessera/ByteSource", "markSkippedData", "(J)V"⟩ : MethodName) (head1 (Jvm.Cond.code (⟨"com/example/tessera/tessera/ByteSource", "markSkippedData", "(J)V"⟩ : MethodName) prog_15_method_12_code 3 none :: ws) ({ frames := 0, cells := 0, slots := 0, locals := 0 } : Room)) (fun a U => a = #[(.ref a_1), (.long q_2)] ∧ Z.Warmed39 U.vm ∧ U.heap = h0) (fun _ _ _ _ _ => True) (fun _ U o U' => ∃ v L, o = .returned v ∧ own_Q5 Z a_1 q_2 w_dataEndExact_a_1 w_bytes_a_1 w_dataEnd_a_1 h0 n0 v U'.heap L ∧ FrameEnd U o U' L ({ frames := 0, cells := 0, slots := 0, locals := 0 } : Room).cells ({ frames := 0, cells := 0, slots := 0, locals := 0 } : Room).slots) := by
  refine MetFree.of_bodySF (plainFor_of_name own_pn0) hisR ?_
  intro p e s m args below meth c s₁ Bd hml0 hP hK
  obtain ⟨rfl, hZ, hh⟩ := hP
  have hx := Bd.exec
  have hby := Bd.bytes
  have hml : c.maxLocals = 3 := hml0
  have hown : s.vm.findClass "com/example/tessera/tessera/ByteSource" = some m.cls := findClass_of_methodNamed Bd.named
  have hnm := (name_of_methodNamed Bd.named Bd.method).1
  have X0 : Stand p l e ({ frames := 0, cells := 0, slots := 0, locals := 0 } : Room) s m #[(.ref a_1), (.long q_2)] below meth c s₁ [] 0 0 := Stand.of_body Bd
  have e0 : s₁.heap = h0 := by rw [← hh, Bd.state]; rfl
  have N0 := Fr.nil n0
  have z0 : n0 ≤ h0.size := Z0
  have z1 := pr_E_a_1.lt
  have z2 := pr_F_a_1_dataEndExact.lt
  have z3 := pr_F_a_1_bytes.lt
  have z4 := pr_F_a_1_dataEnd.lt
  have K0 : Keep h0 h0 [a_1] := Keep.refl h0 _
  show own_Go p.tables e below (fun t o => t.status = .running ∧ Ended t below o ∧ ∃ v L, o = .returned v ∧ own_Q5 Z a_1 q_2 w_dataEndExact_a_1 w_bytes_a_1 w_dataEnd_a_1 h0 n0 v t.heap L ∧ FrameEnd s o t L ({ frames := 0, cells := 0, slots := 0, locals := 0 } : Room).cells ({ frames := 0, cells := 0, slots := 0, locals := 0 } : Room).slots) s₁ (entryFrame m #[(.ref a_1), (.long q_2)] 3)
  rw [own_ef_own_rm5 m a_1 q_2]
  show own_Go _ _ _ _ s₁ (mkF m 0 #[.val (.ref a_1), .val (.long q_2), .second] [])
  refine own_go (fun _ k => XS.aloadN X0.here hx rfl (hb hby own_d5_0) rfl rfl k) ?_
  show own_Go _ _ _ _ s₁ (mkF m 1 #[.val (.ref a_1), .val (.long q_2), .second] [(.ref a_1)])
  refine own_go (fun _ k => XS.lloadN X0.here hx rfl (hb hby own_d5_1) rfl k) ?_
  show own_Go _ _ _ _ s₁ (mkF m 2 #[.val (.ref a_1), .val (.long q_2), .second] [(.long q_2), (.ref a_1)])
  obtain ⟨T5, h5, X5, e5, W5, st5⟩ := putF X0 hx hZ hown (host := "") (Or.inl (hw _ (List.mem_of_getElem? (i := 19) rfl))) Via.refl e0 pr_F_a_1_dataEnd pr_E_a_1 (Or.inl (hw _ (List.mem_of_getElem? (i := 20) rfl))) (hw _ (List.mem_of_getElem? (i := 1) rfl)) (ty := .long) (by decide) rfl rfl (g := (mkF m 2 #[.val (.ref a_1), .val (.long q_2), .second] [(.long q_2), (.ref a_1)])) rfl rfl (hb hby own_d5_2)
  have z6 := W5.size
  have K5 : Keep h0 h5 [a_1] := K0.wr W5 (Or.inl (List.mem_of_getElem? (i := 0) rfl))
  have N5 := Fr.snoc X5 N0 (by omega : n0 ≤ a_1)
  have Fw5 : Fld Z h5 a_1 "com/example/tessera/tessera/ByteSource" "dataEnd" "J" (.long q_2) := Fld.same W5 pr_F_a_1_dataEnd
  refine own_go (fun _ k => st5 _ k) ?_
  show own_Go _ _ _ _ T5 (mkF m 5 #[.val (.ref a_1), .val (.long q_2), .second] [])
  refine own_go (fun _ k => XS.aloadN X5.here hx rfl (hb hby own_d5_5) rfl rfl k) ?_
  show own_Go _ _ _ _ T5 (mkF m 6 #[.val (.ref a_1), .val (.long q_2), .second] [(.ref a_1)])
  refine own_go (fun _ k => XS.iconst X5.here hx rfl (hb hby own_d5_6) k) ?_
  show own_Go _ _ _ _ T5 (mkF m 7 #[.val (.ref a_1), .val (.long q_2), .second] [(.int (0 : Int32)), (.ref a_1)])
  have f7 : Exa Z h5 a_1 "com/example/tessera/tessera/ByteSource" := (pr_E_a_1.wr W5)
  have f8 : Fld Z h5 a_1 "com/example/tessera/tessera/ByteSource" "dataEndExact" "Z" (.int w_dataEndExact_a_1) := (pr_F_a_1_dataEndExact.other W5 (Or.inr (slot_ne (Or.inl (hw _ (List.mem_of_getElem? (i := 11) rfl))) (Or.inl (hw _ (List.mem_of_getElem? (i := 20) rfl))) (by decide) (t := .boolean) (t' := .long) (by decide) (by decide))))
  obtain ⟨T9, h9, X9, e9, W9, st9⟩ := putFN X5 hx hZ hown (hw _ (List.mem_of_getElem? (i := 10) rfl)) Via.refl e5 f8 f7 (Or.inl (hw _ (List.mem_of_getElem? (i := 11) rfl))) (hw _ (List.mem_of_getElem? (i := 1) rfl)) (ty := .boolean) (v' := .int (0 : Int32)) (by decide) (rfl) (fits_nar_bool (0 : Int32)) (g := (mkF m 7 #[.val (.ref a_1), .val (.long q_2), .second] [(.int (0 : Int32)), (.ref a_1)])) rfl rfl (hb hby own_d5_7)
  have z10 := W9.size
  have K9 : Keep h0 h9 [a_1] := K5.wr W9 (Or.inl (List.mem_of_getElem? (i := 0) rfl))
  have N9 := Fr.snoc X9 N5 (by omega : n0 ≤ a_1)
  have Fw9 : Fld Z h9 a_1 "com/example/tessera/tessera/ByteSource" "dataEndExact" "Z" (.int (0 : Int32)) := Fld.same W9 f8
  refine own_go (fun _ k => st9 _ k) ?_
  show own_Go _ _ _ _ T9 (mkF m 10 #[.val (.ref a_1), .val (.long q_2), .second] [])
  obtain ⟨fs, hr, hrun, hended, hW, hsame⟩ := X9.leave (v := none) (fun _ => rfl)
  refine ⟨_, _, X9.returnOut hx Bd.returns (hb hby own_d5_10) hr, hrun, hended, _, _, rfl, ?_, ⟨_, rfl⟩, hW, hsame.mono (by decide) (by decide)⟩
  show own_Q5 Z a_1 q_2 w_dataEndExact_a_1 w_bytes_a_1 w_dataEnd_a_1 h0 n0 _ T9.heap _
  rw [e9]
  have f12 : Exa Z h9 a_1 "com/example/tessera/tessera/ByteSource" := (f7.wr W9)
  have f13 : Fld Z h9 a_1 "com/example/tessera/tessera/ByteSource" "bytes" "[B" w_bytes_a_1 := ((pr_F_a_1_bytes.other W5 (Or.inr (slot_ne (Or.inr (hw _ (List.mem_of_getElem? (i := 13) rfl))) (Or.inl (hw _ (List.mem_of_getElem? (i := 20) rfl))) (by decide) (t := (.array .byte)) (t' := .long) (by decide) (by decide)))).other W9 (Or.inr (slot_ne (Or.inr (hw _ (List.mem_of_getElem? (i := 13) rfl))) (Or.inl (hw _ (List.mem_of_getElem? (i := 11) rfl))) (by decide) (t := (.array .byte)) (t' := .boolean) (by decide) (by decide))))
  have f14 : Fld Z h9 a_1 "com/example/tessera/tessera/ByteSource" "dataEnd" "J" (.long q_2) := (Fw5.other W9 (Or.inr (slot_ne (Or.inl (hw _ (List.mem_of_getElem? (i := 20) rfl))) (Or.inl (hw _ (List.mem_of_getElem? (i := 11) rfl))) (by decide) (t := .long) (t' := .boolean) (by decide) (by decide))))
  exact ⟨rfl, N9, K9, f12, Fw9, f13, f14⟩
theorem own_ef_own_rm0 (m : MethodId) (x0 : Int64) (x1 : Int64) (x2 : Int64) (x3 : Int32) : entryFrame m #[(.long x0), (.long x1), (.long x2), (.int x3)] maxLocals = mkF m 0 #[.val (.long x0), .second, .val (.long x1), .second, .val (.long x2), .second, .val (.int x3), .unset, .unset] [] := by first | (simp [entryFrame, mkF, argsToLocals, Value.category, maxLocals]; done) | rfl
set_option maxRecDepth 65536 in
set_option maxHeartbeats 4000000 in
theorem own_t0_0 (q_2 : Int64) (q_3 : Int64) (v40 : Int64) (hdv40 : v40 = (q_2 + q_3)) : (q_2 + q_3) = v40 := by
  grind
set_option maxRecDepth 65536 in
set_option maxHeartbeats 4000000 in
theorem own_t0_1 (q_1 : Int64) (q_2 : Int64) (q_3 : Int64) (v54 : Int64) (v65 : Int64) (hdv54 : v54 = (q_1 + q_2)) (hdv65 : v65 = (q_2 + q_3)) : (q_2 + q_3) = v65 := by
  grind
set_option maxRecDepth 65536 in
set_option maxHeartbeats 4000000 in
theorem own_t0_2 (q_1 : Int64) (q_2 : Int64) (q_3 : Int64) (v89 : Int64) (v100 : Int64) (hdv89 : v89 = (q_2 + q_1)) (hdv100 : v100 = (q_2 + q_3)) : (q_2 + q_3) = v100 := by
  grind
set_option maxRecDepth 65536 in
set_option maxHeartbeats 4000000 in
theorem own_t0_3 (q_2 : Int64) (q_3 : Int64) (v113 : Int64) (hdv113 : v113 = (q_2 + q_3)) : (q_2 + q_3) = v113 := by
  grind
def own_Q0 (Z : State) (q_1 : Int64) (q_2 : Int64) (q_3 : Int64) (p_4 : Int32) (h0 : Heap) (n0 : Nat) (v : Option Value) (h : Heap) (L : List Loc) : Prop := v = some (.int (1 : Int32)) ∧ Fr n0 L
set_option maxRecDepth 65536 in
set_option maxHeartbeats 40000000 in
theorem own_rm0 (l : Launch) (Z : State) (a0 : Array Value) (hw : ∀ d ∈ tables_1, d.before a0 Z = true) (ws : List Jvm.Cond) (q_1 : Int64) (q_2 : Int64) (q_3 : Int64) (p_4 : Int32) (h0 : Heap) (n0 : Nat) (Z0 : n0 ≤ h0.size) :
    MetFree l x (head1 (Jvm.Cond.code x code maxLocals ret :: ws) room_1) (fun a U => a = #[(.long q_1), (.long q_2), (.long q_3), (.int p_4)] ∧ Z.Warmed39 U.vm ∧ U.heap = h0) (fun _ _ _ _ _ => True) (fun _ U o U' => ∃ v L, o = .returned v ∧ own_Q0 Z q_1 q_2 q_3 p_4 h0 n0 v U'.heap L ∧ FrameEnd U o U' L 2 12) := by
  refine MetFree.of_bodySF (plainFor_of_name own_pn1) hisR ?_
  intro p e s m args below meth c s₁ Bd hml0 hP hK
  obtain ⟨rfl, hZ, hh⟩ := hP
  have hx := Bd.exec
  have hby := Bd.bytes
  have hml : c.maxLocals = 9 := hml0
  have hown : s.vm.findClass "com/example/tessera/tessera/ByteSourceMarkReadPinLaw" = some m.cls := findClass_of_methodNamed Bd.named
  have hnm := (name_of_methodNamed Bd.named Bd.method).1
  have X0 : Stand p l e room_1 s m #[(.long q_1), (.long q_2), (.long q_3), (.int p_4)] below meth c s₁ [] 0 0 := Stand.of_body Bd
  have e0 : s₁.heap = h0 := by rw [← hh, Bd.state]; rfl
  have N0 := Fr.nil n0
  have z0 : n0 ≤ h0.size := Z0
  show own_Go p.tables e below (fun t o => t.status = .running ∧ Ended t below o ∧ ∃ v L, o = .returned v ∧ own_Q0 Z q_1 q_2 q_3 p_4 h0 n0 v t.heap L ∧ FrameEnd s o t L 2 12) s₁ (entryFrame m #[(.long q_1), (.long q_2), (.long q_3), (.int p_4)] maxLocals)
  rw [own_ef_own_rm0 m q_1 q_2 q_3 p_4]
  show own_Go _ _ _ _ s₁ (mkF m 0 #[.val (.long q_1), .second, .val (.long q_2), .second, .val (.long q_3), .second, .val (.int p_4), .unset, .unset] [])
  obtain ⟨T1, h1, X1, e1, E1, A1, D1, Y1, st1⟩ := newO X0 hx hZ hown (hw _ (List.mem_of_getElem? (i := 0) rfl)) (hw _ (List.mem_of_getElem? (i := 1) rfl)) (hw _ (List.mem_of_getElem? (i := 2) rfl)) e0 (g := (mkF m 0 #[.val (.long q_1), .second, .val (.long q_2), .second, .val (.long q_3), .second, .val (.int p_4), .unset, .unset] [])) rfl (hb hby at_0) (by decide) (by decide)
  obtain ⟨b1, g1⟩ : ∃ z, z = h0.size := ⟨_, rfl⟩
  rw [← g1] at A1 D1 Y1 st1
  have z2 := E1.1
  have lt_b1 := A1.lt
  have F_dataEndExact_b1 : Fld Z h1 b1 "com/example/tessera/tessera/ByteSource" "dataEndExact" "Z" (.int (0 : Int32)) := D1 (Or.inl (hw _ (List.mem_of_getElem? (i := 11) rfl))) (ty := .boolean) (by decide)
  have F_bytes_b1 : Fld Z h1 b1 "com/example/tessera/tessera/ByteSource" "bytes" "[B" .null := D1 (Or.inr (hw _ (List.mem_of_getElem? (i := 13) rfl))) (ty := (.array .byte)) (by decide)
  have F_dataEnd_b1 : Fld Z h1 b1 "com/example/tessera/tessera/ByteSource" "dataEnd" "J" (.long (0 : Int64)) := D1 (Or.inl (hw _ (List.mem_of_getElem? (i := 20) rfl))) (ty := .long) (by decide)
  refine own_go (fun _ k => st1 _ k) ?_
  show own_Go _ _ _ _ T1 (mkF m 3 #[.val (.long q_1), .second, .val (.long q_2), .second, .val (.long q_3), .second, .val (.int p_4), .unset, .unset] [(.ref b1)])
  refine own_go (fun _ k => XS.dup X1.here hx rfl (hb hby at_3) rfl rfl k) ?_
  show own_Go _ _ _ _ T1 (mkF m 4 #[.val (.long q_1), .second, .val (.long q_2), .second, .val (.long q_3), .second, .val (.int p_4), .unset, .unset] [(.ref b1), (.ref b1)])
  refine own_go (fun _ k => XS.bipush X1.here hx rfl (hb hby at_4) k) ?_
  show own_Go _ _ _ _ T1 (mkF m 6 #[.val (.long q_1), .second, .val (.long q_2), .second, .val (.long q_3), .second, .val (.int p_4), .unset, .unset] [(.int (8 : Int32)), (.ref b1), (.ref b1)])
  obtain ⟨T3, h3, k3, X3, e3, E3, A3, st3⟩ := newP X1 hx hZ (hw _ (List.mem_of_getElem? (i := 3) rfl)) e1 (g := (mkF m 6 #[.val (.long q_1), .second, .val (.long q_2), .second, .val (.long q_3), .second, .val (.int p_4), .unset, .unset] [(.int (8 : Int32)), (.ref b1), (.ref b1)])) rfl (hb hby at_6) rfl (by decide) (cap := 8) (by decide) (by decide) (by decide) (by decide)
  obtain ⟨b3, g3⟩ : ∃ z, z = h1.size := ⟨_, rfl⟩
  rw [← g3] at A3 st3
  have z4 := E3.1
  have lt_b3 := A3.lt
  have V_b3 : own_AV Z h3 b3 .byte (8 : Int32) (fun _ => (.int (0 : Int32))) := own_AV.new A3 (by decide)
  refine own_go (fun _ k => st3 _ k) ?_
  show own_Go _ _ _ _ T3 (mkF m 8 #[.val (.long q_1), .second, .val (.long q_2), .second, .val (.long q_3), .second, .val (.int p_4), .unset, .unset] [(.ref b3), (.ref b1), (.ref b1)])
  have f5 : Exa Z h3 b1 "com/example/tessera/tessera/ByteSource" := (A1.ext E3)
  have f6 : Fld Z h3 b1 "com/example/tessera/tessera/ByteSource" "dataEndExact" "Z" (.int (0 : Int32)) := (F_dataEndExact_b1.ext E3)
  have f7 : Fld Z h3 b1 "com/example/tessera/tessera/ByteSource" "bytes" "[B" .null := (F_bytes_b1.ext E3)
  have f8 : Fld Z h3 b1 "com/example/tessera/tessera/ByteSource" "dataEnd" "J" (.long (0 : Int64)) := (F_dataEnd_b1.ext E3)
  obtain ⟨_, _, ⟨T9, L9, k9, n9⟩, -, X9, ⟨Lc9, hQ9, l9, y9, z9⟩, st9⟩ := X3.specialBack hx (y := (⟨"com/example/tessera/tessera/ByteSource", "<init>", "([B)V"⟩ : MethodName)) rfl hown (mvT hZ (hw _ (List.mem_of_getElem? (i := 4) rfl))) (mvT hZ (hw _ (List.mem_of_getElem? (i := 5) rfl))) (mvT hZ (hw _ (List.mem_of_getElem? (i := 6) rfl))) (by decide) (backOf (W := 1) (own_rm1 l Z a0 hw [] b1 b3 (0 : Int32) .null (0 : Int64) h3 n0 (by omega) f5 f6 f7 f8 (by omega)) hZ (hw _ (List.mem_of_getElem? (i := 6) rfl)) (hw _ (List.mem_of_getElem? (i := 2) rfl)) (by decide) (by decide)) (g := (mkF m 8 #[.val (.long q_1), .second, .val (.long q_2), .second, .val (.long q_3), .second, .val (.int p_4), .unset, .unset] [(.ref b3), (.ref b1), (.ref b1)])) rfl (by rw [hml]; rfl) (Steps.refl _) (a := b1) (argsL := [(.ref b3)]) (rest := [(.ref b1)]) (lenOf own_pd0 rfl) rfl (by show 2 * 0 + _ ≤ _; exact Nat.le_of_eq rfl) (hb hby at_8) (fun _ _ => ⟨rfl, e3, (by decide : 2 + 0 ≤ _), (by decide : 12 + 0 ≤ _)⟩)
  dsimp only [Pt.U, Pt.locs, Pt.cells, Pt.slots] at X9 l9 y9 z9 st9 hQ9
  have y9 : k9 = 2 := y9
  have z9 : n9 = 12 := z9
  obtain ⟨rfl, N9q, K9q, f10, f11, f12, f13⟩ := hQ9
  have N9 : Fr n0 L9 := by rw [l9]; exact Fr.app N0 N9q
  have z14 := K9q.1
  have z15 := f10.lt
  have z16 := f11.lt
  have z17 := f12.lt
  have z18 := f13.lt
  refine own_go (fun _ k => st9.trans k) ?_
  show own_Go _ _ _ _ T9 (mkF m 11 #[.val (.long q_1), .second, .val (.long q_2), .second, .val (.long q_3), .second, .val (.int p_4), .unset, .unset] [(.ref b1)])
  refine own_go (fun _ k => XS.astore X9.here hx rfl (hb hby at_11) rfl rfl (l' := #[.val (.long q_1), .second, .val (.long q_2), .second, .val (.long q_3), .second, .val (.int p_4), .val (.ref b1), .unset]) rfl k) ?_
  show own_Go _ _ _ _ T9 (mkF m 13 #[.val (.long q_1), .second, .val (.long q_2), .second, .val (.long q_3), .second, .val (.int p_4), .val (.ref b1), .unset] [])
  refine own_go (fun _ k => XS.iload X9.here hx rfl (hb hby at_13) rfl k) ?_
  show own_Go _ _ _ _ T9 (mkF m 15 #[.val (.long q_1), .second, .val (.long q_2), .second, .val (.long q_3), .second, .val (.int p_4), .val (.ref b1), .unset] [(.int p_4)])
  refine own_go (fun _ k => XS.iconst X9.here hx rfl (hb hby at_15) k) ?_
  show own_Go _ _ _ _ T9 (mkF m 16 #[.val (.long q_1), .second, .val (.long q_2), .second, .val (.long q_3), .second, .val (.int p_4), .val (.ref b1), .unset] [(.int (3 : Int32)), (.int p_4)])
  refine own_go (fun _ k => XS.iand X9.here hx rfl (hb hby at_16) rfl k) ?_
  show own_Go _ _ _ _ T9 (mkF m 17 #[.val (.long q_1), .second, .val (.long q_2), .second, .val (.long q_3), .second, .val (.int p_4), .val (.ref b1), .unset] [(.int (p_4 &&& (3 : Int32)))])
  refine own_go (fun _ k => XS.istore X9.here hx rfl (hb hby at_17) rfl (l' := #[.val (.long q_1), .second, .val (.long q_2), .second, .val (.long q_3), .second, .val (.int p_4), .val (.ref b1), .val (.int (p_4 &&& (3 : Int32)))]) rfl k) ?_
  show own_Go _ _ _ _ T9 (mkF m 19 #[.val (.long q_1), .second, .val (.long q_2), .second, .val (.long q_3), .second, .val (.int p_4), .val (.ref b1), .val (.int (p_4 &&& (3 : Int32)))] [])
  generalize hdv19 : (p_4 &&& (3 : Int32)) = v19
  show own_Go _ _ _ _ T9 (mkF m 19 #[.val (.long q_1), .second, .val (.long q_2), .second, .val (.long q_3), .second, .val (.int p_4), .val (.ref b1), .val (.int v19)] [])
  refine own_go (fun _ k => XS.iload X9.here hx rfl (hb hby at_19) rfl k) ?_
  show own_Go _ _ _ _ T9 (mkF m 21 #[.val (.long q_1), .second, .val (.long q_2), .second, .val (.long q_3), .second, .val (.int p_4), .val (.ref b1), .val (.int v19)] [(.int v19)])
  refine own_go (fun _ k => XS.iconst X9.here hx rfl (hb hby at_21) k) ?_
  show own_Go _ _ _ _ T9 (mkF m 22 #[.val (.long q_1), .second, .val (.long q_2), .second, .val (.long q_3), .second, .val (.int p_4), .val (.ref b1), .val (.int v19)] [(.int (1 : Int32)), (.int v19)])
  by_cases hc20 : v19 = (1 : Int32)
  · refine own_go (fun _ k => XS.icmpNo X9.here hx rfl (hb hby at_22) rfl (Jvm.Free.XT.ii_ne_f hc20) k) ?_
    show own_Go _ _ _ _ T9 (mkF m 25 #[.val (.long q_1), .second, .val (.long q_2), .second, .val (.long q_3), .second, .val (.int p_4), .val (.ref b1), .val (.int v19)] [])
    refine own_go (fun _ k => XS.aload X9.here hx rfl (hb hby at_25) rfl rfl k) ?_
    show own_Go _ _ _ _ T9 (mkF m 27 #[.val (.long q_1), .second, .val (.long q_2), .second, .val (.long q_3), .second, .val (.int p_4), .val (.ref b1), .val (.int v19)] [(.ref b1)])
    refine own_go (fun _ k => XS.lloadN X9.here hx rfl (hb hby at_27) rfl k) ?_
    show own_Go _ _ _ _ T9 (mkF m 28 #[.val (.long q_1), .second, .val (.long q_2), .second, .val (.long q_3), .second, .val (.int p_4), .val (.ref b1), .val (.int v19)] [(.long q_1), (.ref b1)])
    obtain ⟨cq21, kq21, q21a, q21b, q21c⟩ := isOf hZ rfl f10
    obtain ⟨_, _, ⟨T21, L21, k21, n21⟩, -, X21, ⟨Lc21, hQ21, l21, y21, z21⟩, st21⟩ := X9.virtualBack hx (y := (⟨"com/example/tessera/tessera/ByteSource", "markSkippedData", "(J)V"⟩ : MethodName)) (z := (⟨"com/example/tessera/tessera/ByteSource", "markSkippedData", "(J)V"⟩ : MethodName)) hown (mvT hZ (hw _ (List.mem_of_getElem? (i := 26) rfl))) (mvT hZ (hw _ (List.mem_of_getElem? (i := 27) rfl))) (notFace_of_selects (args := #[]) (mvT hZ (hw _ (List.mem_of_getElem? (i := 29) rfl)))) (mvT hZ (hw _ (List.mem_of_getElem? (i := 29) rfl))) (mvT hZ (hw _ (List.mem_of_getElem? (i := 28) rfl))) (by decide) (backOf (W := 0) (own_rm5 l Z a0 hw [] b1 q_1 (1 : Int32) (.ref b3) (0 : Int64) T9.heap n0 (by omega) f10 f11 f12 f13 (by omega)) hZ (hw _ (List.mem_of_getElem? (i := 30) rfl)) (hw _ (List.mem_of_getElem? (i := 2) rfl)) (by decide) (by decide)) q21a q21c (g := (mkF m 28 #[.val (.long q_1), .second, .val (.long q_2), .second, .val (.long q_3), .second, .val (.int p_4), .val (.ref b1), .val (.int v19)] [(.long q_1), (.ref b1)])) rfl (by rw [hml]; rfl) (Steps.refl _) (argsL := [(.long q_1)]) (rest := []) (lenOf own_pd1 rfl) rfl (by show 2 * 0 + _ ≤ _; exact Nat.le_of_eq rfl) (hb hby at_28) (fun _ _ => ⟨rfl, rfl, (by show k9 + _ ≤ _; rw [y9]; decide), (by show n9 + _ ≤ _; rw [z9]; decide)⟩)
    dsimp only [Pt.U, Pt.locs, Pt.cells, Pt.slots] at X21 l21 y21 z21 st21 hQ21
    have y21 : k21 = 2 := own_addeq y21 (congrArg (fun q => q) y9) rfl
    have z21 : n21 = 12 := own_addeq z21 (congrArg (fun q => q) z9) rfl
    obtain ⟨rfl, N21q, K21q, f22, f23, f24, f25⟩ := hQ21
    have N21 : Fr n0 L21 := by rw [l21]; exact Fr.app N9 N21q
    have z26 := K21q.1
    have z27 := f22.lt
    have z28 := f23.lt
    have z29 := f24.lt
    have z30 := f25.lt
    refine own_go (fun _ k => st21.trans k) ?_
    show own_Go _ _ _ _ T21 (mkF m 31 #[.val (.long q_1), .second, .val (.long q_2), .second, .val (.long q_3), .second, .val (.int p_4), .val (.ref b1), .val (.int v19)] [])
    refine own_go (fun _ k => XS.goto X21.here hx rfl (pc0 := 31) (pc' := 69) rfl (hb hby at_31) (by decide) (by decide) k) ?_
    show own_Go _ _ _ _ T21 (mkF m 69 #[.val (.long q_1), .second, .val (.long q_2), .second, .val (.long q_3), .second, .val (.int p_4), .val (.ref b1), .val (.int v19)] [])
    refine own_go (fun _ k => XS.aload X21.here hx rfl (hb hby at_69) rfl rfl k) ?_
    show own_Go _ _ _ _ T21 (mkF m 71 #[.val (.long q_1), .second, .val (.long q_2), .second, .val (.long q_3), .second, .val (.int p_4), .val (.ref b1), .val (.int v19)] [(.ref b1)])
    refine own_go (fun _ k => XS.lloadN X21.here hx rfl (hb hby at_71) rfl k) ?_
    show own_Go _ _ _ _ T21 (mkF m 72 #[.val (.long q_1), .second, .val (.long q_2), .second, .val (.long q_3), .second, .val (.int p_4), .val (.ref b1), .val (.int v19)] [(.long q_2), (.ref b1)])
    refine own_go (fun _ k => XS.lload X21.here hx rfl (hb hby at_72) rfl k) ?_
    show own_Go _ _ _ _ T21 (mkF m 74 #[.val (.long q_1), .second, .val (.long q_2), .second, .val (.long q_3), .second, .val (.int p_4), .val (.ref b1), .val (.int v19)] [(.long q_3), (.long q_2), (.ref b1)])
    obtain ⟨cq31, kq31, q31a, q31b, q31c⟩ := isOf hZ rfl f22
    obtain ⟨_, _, ⟨T31, L31, k31, n31⟩, -, X31, ⟨Lc31, hQ31, l31, y31, z31⟩, st31⟩ := X21.virtualBack hx (y := (⟨"com/example/tessera/tessera/ByteSource", "markRead", "(JJ)V"⟩ : MethodName)) (z := (⟨"com/example/tessera/tessera/ByteSource", "markRead", "(JJ)V"⟩ : MethodName)) hown (mvT hZ (hw _ (List.mem_of_getElem? (i := 14) rfl))) (mvT hZ (hw _ (List.mem_of_getElem? (i := 15) rfl))) (notFace_of_selects (args := #[]) (mvT hZ (hw _ (List.mem_of_getElem? (i := 17) rfl)))) (mvT hZ (hw _ (List.mem_of_getElem? (i := 17) rfl))) (mvT hZ (hw _ (List.mem_of_getElem? (i := 16) rfl))) (by decide) (backOf (W := 0) (own_rm3 l Z a0 hw [] b1 q_2 q_3 (0 : Int32) (.ref b3) q_1 T21.heap n0 (by omega) f22 f23 f24 f25 (by omega)) hZ (hw _ (List.mem_of_getElem? (i := 18) rfl)) (hw _ (List.mem_of_getElem? (i := 2) rfl)) (by decide) (by decide)) q31a q31c (g := (mkF m 74 #[.val (.long q_1), .second, .val (.long q_2), .second, .val (.long q_3), .second, .val (.int p_4), .val (.ref b1), .val (.int v19)] [(.long q_3), (.long q_2), (.ref b1)])) rfl (by rw [hml]; rfl) (Steps.refl _) (argsL := [(.long q_2), (.long q_3)]) (rest := []) (lenOf own_pd2 rfl) rfl (by show 2 * 0 + _ ≤ _; exact Nat.le_of_eq rfl) (hb hby at_74) (fun _ _ => ⟨rfl, rfl, (by show k21 + _ ≤ _; rw [y21]; decide), (by show n21 + _ ≤ _; rw [z21]; decide)⟩)
    dsimp only [Pt.U, Pt.locs, Pt.cells, Pt.slots] at X31 l31 y31 z31 st31 hQ31
    have y31 : k31 = 2 := own_addeq y31 (congrArg (fun q => q) y21) rfl
    have z31 : n31 = 12 := own_addeq z31 (congrArg (fun q => q) z21) rfl
    obtain ⟨rfl, N31q, K31q, f32, f33, f34, f35⟩ := hQ31
    have N31 : Fr n0 L31 := by rw [l31]; exact Fr.app N21 N31q
    have z36 := K31q.1
    have z37 := f32.lt
    have z38 := f33.lt
    have z39 := f34.lt
    obtain ⟨v40, hdv40⟩ : ∃ z : Int64, z = (q_2 + q_3) := ⟨_, rfl⟩
    rw [← hdv40] at f35
    have z41 := f35.lt
    refine own_go (fun _ k => st31.trans k) ?_
    show own_Go _ _ _ _ T31 (mkF m 77 #[.val (.long q_1), .second, .val (.long q_2), .second, .val (.long q_3), .second, .val (.int p_4), .val (.ref b1), .val (.int v19)] [])
    refine own_go (fun _ k => XS.aload X31.here hx rfl (hb hby at_77) rfl rfl k) ?_
    show own_Go _ _ _ _ T31 (mkF m 79 #[.val (.long q_1), .second, .val (.long q_2), .second, .val (.long q_3), .second, .val (.int p_4), .val (.ref b1), .val (.int v19)] [(.ref b1)])
    refine own_go (fun _ k => XS.iconst X31.here hx rfl (hb hby at_79) k) ?_
    show own_Go _ _ _ _ T31 (mkF m 80 #[.val (.long q_1), .second, .val (.long q_2), .second, .val (.long q_3), .second, .val (.int p_4), .val (.ref b1), .val (.int v19)] [(.int (0 : Int32)), (.ref b1)])
    refine own_go (fun _ k => XS.lloadN X31.here hx rfl (hb hby at_80) rfl k) ?_
    show own_Go _ _ _ _ T31 (mkF m 81 #[.val (.long q_1), .second, .val (.long q_2), .second, .val (.long q_3), .second, .val (.int p_4), .val (.ref b1), .val (.int v19)] [(.long q_2), (.int (0 : Int32)), (.ref b1)])
    refine own_go (fun _ k => XS.lload X31.here hx rfl (hb hby at_81) rfl k) ?_
    show own_Go _ _ _ _ T31 (mkF m 83 #[.val (.long q_1), .second, .val (.long q_2), .second, .val (.long q_3), .second, .val (.int p_4), .val (.ref b1), .val (.int v19)] [(.long q_3), (.long q_2), (.int (0 : Int32)), (.ref b1)])
    refine own_go (fun _ k => XS.ladd X31.here hx rfl (hb hby at_83) rfl k) ?_
    show own_Go _ _ _ _ T31 (mkF m 84 #[.val (.long q_1), .second, .val (.long q_2), .second, .val (.long q_3), .second, .val (.int p_4), .val (.ref b1), .val (.int v19)] [(.long (q_2 + q_3)), (.int (0 : Int32)), (.ref b1)])
    obtain ⟨cq42, kq42, q42a, q42b, q42c⟩ := isOf hZ rfl f32
    obtain ⟨_, _, ⟨T42, L42, k42, n42⟩, -, X42, ⟨Lc42, hQ42, l42, y42, z42⟩, st42⟩ := X31.virtualBack hx (y := (⟨"com/example/tessera/tessera/ByteSource", "requireTarget", "(IJ)V"⟩ : MethodName)) (z := (⟨"com/example/tessera/tessera/ByteSource", "requireTarget", "(IJ)V"⟩ : MethodName)) hown (mvT hZ (hw _ (List.mem_of_getElem? (i := 21) rfl))) (mvT hZ (hw _ (List.mem_of_getElem? (i := 22) rfl))) (notFace_of_selects (args := #[]) (mvT hZ (hw _ (List.mem_of_getElem? (i := 24) rfl)))) (mvT hZ (hw _ (List.mem_of_getElem? (i := 24) rfl))) (mvT hZ (hw _ (List.mem_of_getElem? (i := 23) rfl))) (by decide) (backOf (W := 0) (own_rm4 l Z a0 hw [] b1 (0 : Int32) (q_2 + q_3) (1 : Int32) v40 T31.heap n0 (by omega) (own_t0_0 q_2 q_3 v40 hdv40) f33 f35) hZ (hw _ (List.mem_of_getElem? (i := 25) rfl)) (hw _ (List.mem_of_getElem? (i := 2) rfl)) (by decide) (by decide)) q42a q42c (g := (mkF m 84 #[.val (.long q_1), .second, .val (.long q_2), .second, .val (.long q_3), .second, .val (.int p_4), .val (.ref b1), .val (.int v19)] [(.long (q_2 + q_3)), (.int (0 : Int32)), (.ref b1)])) rfl (by rw [hml]; rfl) (Steps.refl _) (argsL := [(.int (0 : Int32)), (.long (q_2 + q_3))]) (rest := []) (lenOf own_pd3 rfl) rfl (by show 2 * 0 + _ ≤ _; exact Nat.le_of_eq rfl) (hb hby at_84) (fun _ _ => ⟨rfl, rfl, (by show k31 + _ ≤ _; rw [y31]; decide), (by show n31 + _ ≤ _; rw [z31]; decide)⟩)
    dsimp only [Pt.U, Pt.locs, Pt.cells, Pt.slots] at X42 l42 y42 z42 st42 hQ42
    have y42 : k42 = 2 := own_addeq y42 (congrArg (fun q => q) y31) rfl
    have z42 : n42 = 12 := own_addeq z42 (congrArg (fun q => q) z31) rfl
    obtain ⟨rfl, N42q, e42⟩ := hQ42
    have N42 : Fr n0 L42 := by rw [l42]; exact Fr.app N31 N42q
    refine own_go (fun _ k => st42.trans k) ?_
    show own_Go _ _ _ _ T42 (mkF m 87 #[.val (.long q_1), .second, .val (.long q_2), .second, .val (.long q_3), .second, .val (.int p_4), .val (.ref b1), .val (.int v19)] [])
    refine own_go (fun _ k => XS.iconst X42.here hx rfl (hb hby at_87) k) ?_
    show own_Go _ _ _ _ T42 (mkF m 88 #[.val (.long q_1), .second, .val (.long q_2), .second, .val (.long q_3), .second, .val (.int p_4), .val (.ref b1), .val (.int v19)] [(.int (1 : Int32))])
    obtain ⟨fs, hr, hrun, hended, hW, hsame⟩ := X42.leave (v := some (.int (1 : Int32))) (fun h => by rw [Bd.returns] at h; cases h)
    refine ⟨_, _, retOut X42 hx Bd.returns rfl (Or.inl ⟨rfl, Or.inr (Or.inl rfl), _, rfl⟩) (hb hby at_88) hr, hrun, hended, _, _, rfl, ?_, ⟨_, rfl⟩, hW, hsame.mono (by rw [y42]; decide) (by rw [z42]; decide)⟩
    show own_Q0 Z q_1 q_2 q_3 p_4 h0 n0 _ T42.heap _
    rw [e42]
    exact ⟨rfl, N42⟩
  · refine own_go (fun _ k => XS.icmpYes X9.here hx rfl (pc0 := 22) (pc' := 34) rfl (hb hby at_22) rfl (Jvm.Free.XT.ii_ne_t hc20) (by decide) (by decide) k) ?_
    show own_Go _ _ _ _ T9 (mkF m 34 #[.val (.long q_1), .second, .val (.long q_2), .second, .val (.long q_3), .second, .val (.int p_4), .val (.ref b1), .val (.int v19)] [])
    refine own_go (fun _ k => XS.iload X9.here hx rfl (hb hby at_34) rfl k) ?_
    show own_Go _ _ _ _ T9 (mkF m 36 #[.val (.long q_1), .second, .val (.long q_2), .second, .val (.long q_3), .second, .val (.int p_4), .val (.ref b1), .val (.int v19)] [(.int v19)])
    refine own_go (fun _ k => XS.iconst X9.here hx rfl (hb hby at_36) k) ?_
    show own_Go _ _ _ _ T9 (mkF m 37 #[.val (.long q_1), .second, .val (.long q_2), .second, .val (.long q_3), .second, .val (.int p_4), .val (.ref b1), .val (.int v19)] [(.int (2 : Int32)), (.int v19)])
    by_cases hc44 : v19 = (2 : Int32)
    · refine own_go (fun _ k => XS.icmpNo X9.here hx rfl (hb hby at_37) rfl (Jvm.Free.XT.ii_ne_f hc44) k) ?_
      show own_Go _ _ _ _ T9 (mkF m 40 #[.val (.long q_1), .second, .val (.long q_2), .second, .val (.long q_3), .second, .val (.int p_4), .val (.ref b1), .val (.int v19)] [])
      refine own_go (fun _ k => XS.aload X9.here hx rfl (hb hby at_40) rfl rfl k) ?_
      show own_Go _ _ _ _ T9 (mkF m 42 #[.val (.long q_1), .second, .val (.long q_2), .second, .val (.long q_3), .second, .val (.int p_4), .val (.ref b1), .val (.int v19)] [(.ref b1)])
      refine own_go (fun _ k => XS.lloadN X9.here hx rfl (hb hby at_42) rfl k) ?_
      show own_Go _ _ _ _ T9 (mkF m 43 #[.val (.long q_1), .second, .val (.long q_2), .second, .val (.long q_3), .second, .val (.int p_4), .val (.ref b1), .val (.int v19)] [(.long q_1), (.ref b1)])
      refine own_go (fun _ k => XS.lloadN X9.here hx rfl (hb hby at_43) rfl k) ?_
      show own_Go _ _ _ _ T9 (mkF m 44 #[.val (.long q_1), .second, .val (.long q_2), .second, .val (.long q_3), .second, .val (.int p_4), .val (.ref b1), .val (.int v19)] [(.long q_2), (.long q_1), (.ref b1)])
      obtain ⟨cq45, kq45, q45a, q45b, q45c⟩ := isOf hZ rfl f10
      obtain ⟨_, _, ⟨T45, L45, k45, n45⟩, -, X45, ⟨Lc45, hQ45, l45, y45, z45⟩, st45⟩ := X9.virtualBack hx (y := (⟨"com/example/tessera/tessera/ByteSource", "markRead", "(JJ)V"⟩ : MethodName)) (z := (⟨"com/example/tessera/tessera/ByteSource", "markRead", "(JJ)V"⟩ : MethodName)) hown (mvT hZ (hw _ (List.mem_of_getElem? (i := 14) rfl))) (mvT hZ (hw _ (List.mem_of_getElem? (i := 15) rfl))) (notFace_of_selects (args := #[]) (mvT hZ (hw _ (List.mem_of_getElem? (i := 17) rfl)))) (mvT hZ (hw _ (List.mem_of_getElem? (i := 17) rfl))) (mvT hZ (hw _ (List.mem_of_getElem? (i := 16) rfl))) (by decide) (backOf (W := 0) (own_rm3 l Z a0 hw [] b1 q_1 q_2 (1 : Int32) (.ref b3) (0 : Int64) T9.heap n0 (by omega) f10 f11 f12 f13 (by omega)) hZ (hw _ (List.mem_of_getElem? (i := 18) rfl)) (hw _ (List.mem_of_getElem? (i := 2) rfl)) (by decide) (by decide)) q45a q45c (g := (mkF m 44 #[.val (.long q_1), .second, .val (.long q_2), .second, .val (.long q_3), .second, .val (.int p_4), .val (.ref b1), .val (.int v19)] [(.long q_2), (.long q_1), (.ref b1)])) rfl (by rw [hml]; rfl) (Steps.refl _) (argsL := [(.long q_1), (.long q_2)]) (rest := []) (lenOf own_pd2 rfl) rfl (by show 2 * 0 + _ ≤ _; exact Nat.le_of_eq rfl) (hb hby at_44) (fun _ _ => ⟨rfl, rfl, (by show k9 + _ ≤ _; rw [y9]; decide), (by show n9 + _ ≤ _; rw [z9]; decide)⟩)
      dsimp only [Pt.U, Pt.locs, Pt.cells, Pt.slots] at X45 l45 y45 z45 st45 hQ45
      have y45 : k45 = 2 := own_addeq y45 (congrArg (fun q => q) y9) rfl
      have z45 : n45 = 12 := own_addeq z45 (congrArg (fun q => q) z9) rfl
      obtain ⟨rfl, N45q, K45q, f46, f47, f48, f49⟩ := hQ45
      have N45 : Fr n0 L45 := by rw [l45]; exact Fr.app N9 N45q
      have z50 := K45q.1
      have z51 := f46.lt
      have z52 := f47.lt
      have z53 := f48.lt
      obtain ⟨v54, hdv54⟩ : ∃ z : Int64, z = (q_1 + q_2) := ⟨_, rfl⟩
      rw [← hdv54] at f49
      have z55 := f49.lt
      refine own_go (fun _ k => st45.trans k) ?_
      show own_Go _ _ _ _ T45 (mkF m 47 #[.val (.long q_1), .second, .val (.long q_2), .second, .val (.long q_3), .second, .val (.int p_4), .val (.ref b1), .val (.int v19)] [])
      refine own_go (fun _ k => XS.goto X45.here hx rfl (pc0 := 47) (pc' := 69) rfl (hb hby at_47) (by decide) (by decide) k) ?_
      show own_Go _ _ _ _ T45 (mkF m 69 #[.val (.long q_1), .second, .val (.long q_2), .second, .val (.long q_3), .second, .val (.int p_4), .val (.ref b1), .val (.int v19)] [])
      refine own_go (fun _ k => XS.aload X45.here hx rfl (hb hby at_69) rfl rfl k) ?_
      show own_Go _ _ _ _ T45 (mkF m 71 #[.val (.long q_1), .second, .val (.long q_2), .second, .val (.long q_3), .second, .val (.int p_4), .val (.ref b1), .val (.int v19)] [(.ref b1)])
      refine own_go (fun _ k => XS.lloadN X45.here hx rfl (hb hby at_71) rfl k) ?_
      show own_Go _ _ _ _ T45 (mkF m 72 #[.val (.long q_1), .second, .val (.long q_2), .second, .val (.long q_3), .second, .val (.int p_4), .val (.ref b1), .val (.int v19)] [(.long q_2), (.ref b1)])
      refine own_go (fun _ k => XS.lload X45.here hx rfl (hb hby at_72) rfl k) ?_
      show own_Go _ _ _ _ T45 (mkF m 74 #[.val (.long q_1), .second, .val (.long q_2), .second, .val (.long q_3), .second, .val (.int p_4), .val (.ref b1), .val (.int v19)] [(.long q_3), (.long q_2), (.ref b1)])
      obtain ⟨cq56, kq56, q56a, q56b, q56c⟩ := isOf hZ rfl f46
      obtain ⟨_, _, ⟨T56, L56, k56, n56⟩, -, X56, ⟨Lc56, hQ56, l56, y56, z56⟩, st56⟩ := X45.virtualBack hx (y := (⟨"com/example/tessera/tessera/ByteSource", "markRead", "(JJ)V"⟩ : MethodName)) (z := (⟨"com/example/tessera/tessera/ByteSource", "markRead", "(JJ)V"⟩ : MethodName)) hown (mvT hZ (hw _ (List.mem_of_getElem? (i := 14) rfl))) (mvT hZ (hw _ (List.mem_of_getElem? (i := 15) rfl))) (notFace_of_selects (args := #[]) (mvT hZ (hw _ (List.mem_of_getElem? (i := 17) rfl)))) (mvT hZ (hw _ (List.mem_of_getElem? (i := 17) rfl))) (mvT hZ (hw _ (List.mem_of_getElem? (i := 16) rfl))) (by decide) (backOf (W := 0) (own_rm3 l Z a0 hw [] b1 q_2 q_3 (1 : Int32) (.ref b3) v54 T45.heap n0 (by omega) f46 f47 f48 f49 (by omega)) hZ (hw _ (List.mem_of_getElem? (i := 18) rfl)) (hw _ (List.mem_of_getElem? (i := 2) rfl)) (by decide) (by decide)) q56a q56c (g := (mkF m 74 #[.val (.long q_1), .second, .val (.long q_2), .second, .val (.long q_3), .second, .val (.int p_4), .val (.ref b1), .val (.int v19)] [(.long q_3), (.long q_2), (.ref b1)])) rfl (by rw [hml]; rfl) (Steps.refl _) (argsL := [(.long q_2), (.long q_3)]) (rest := []) (lenOf own_pd2 rfl) rfl (by show 2 * 0 + _ ≤ _; exact Nat.le_of_eq rfl) (hb hby at_74) (fun _ _ => ⟨rfl, rfl, (by show k45 + _ ≤ _; rw [y45]; decide), (by show n45 + _ ≤ _; rw [z45]; decide)⟩)
      dsimp only [Pt.U, Pt.locs, Pt.cells, Pt.slots] at X56 l56 y56 z56 st56 hQ56
      have y56 : k56 = 2 := own_addeq y56 (congrArg (fun q => q) y45) rfl
      have z56 : n56 = 12 := own_addeq z56 (congrArg (fun q => q) z45) rfl
      obtain ⟨rfl, N56q, K56q, f57, f58, f59, f60⟩ := hQ56
      have N56 : Fr n0 L56 := by rw [l56]; exact Fr.app N45 N56q
      have z61 := K56q.1
      have z62 := f57.lt
      have z63 := f58.lt
      have z64 := f59.lt
      obtain ⟨v65, hdv65⟩ : ∃ z : Int64, z = (q_2 + q_3) := ⟨_, rfl⟩
      rw [← hdv65] at f60
      have z66 := f60.lt
      refine own_go (fun _ k => st56.trans k) ?_
      show own_Go _ _ _ _ T56 (mkF m 77 #[.val (.long q_1), .second, .val (.long q_2), .second, .val (.long q_3), .second, .val (.int p_4), .val (.ref b1), .val (.int v19)] [])
      refine own_go (fun _ k => XS.aload X56.here hx rfl (hb hby at_77) rfl rfl k) ?_
      show own_Go _ _ _ _ T56 (mkF m 79 #[.val (.long q_1), .second, .val (.long q_2), .second, .val (.long q_3), .second, .val (.int p_4), .val (.ref b1), .val (.int v19)] [(.ref b1)])
      refine own_go (fun _ k => XS.iconst X56.here hx rfl (hb hby at_79) k) ?_
      show own_Go _ _ _ _ T56 (mkF m 80 #[.val (.long q_1), .second, .val (.long q_2), .second, .val (.long q_3), .second, .val (.int p_4), .val (.ref b1), .val (.int v19)] [(.int (0 : Int32)), (.ref b1)])
      refine own_go (fun _ k => XS.lloadN X56.here hx rfl (hb hby at_80) rfl k) ?_
      show own_Go _ _ _ _ T56 (mkF m 81 #[.val (.long q_1), .second, .val (.long q_2), .second, .val (.long q_3), .second, .val (.int p_4), .val (.ref b1), .val (.int v19)] [(.long q_2), (.int (0 : Int32)), (.ref b1)])
      refine own_go (fun _ k => XS.lload X56.here hx rfl (hb hby at_81) rfl k) ?_
      show own_Go _ _ _ _ T56 (mkF m 83 #[.val (.long q_1), .second, .val (.long q_2), .second, .val (.long q_3), .second, .val (.int p_4), .val (.ref b1), .val (.int v19)] [(.long q_3), (.long q_2), (.int (0 : Int32)), (.ref b1)])
      refine own_go (fun _ k => XS.ladd X56.here hx rfl (hb hby at_83) rfl k) ?_
      show own_Go _ _ _ _ T56 (mkF m 84 #[.val (.long q_1), .second, .val (.long q_2), .second, .val (.long q_3), .second, .val (.int p_4), .val (.ref b1), .val (.int v19)] [(.long (q_2 + q_3)), (.int (0 : Int32)), (.ref b1)])
      obtain ⟨cq67, kq67, q67a, q67b, q67c⟩ := isOf hZ rfl f57
      obtain ⟨_, _, ⟨T67, L67, k67, n67⟩, -, X67, ⟨Lc67, hQ67, l67, y67, z67⟩, st67⟩ := X56.virtualBack hx (y := (⟨"com/example/tessera/tessera/ByteSource", "requireTarget", "(IJ)V"⟩ : MethodName)) (z := (⟨"com/example/tessera/tessera/ByteSource", "requireTarget", "(IJ)V"⟩ : MethodName)) hown (mvT hZ (hw _ (List.mem_of_getElem? (i := 21) rfl))) (mvT hZ (hw _ (List.mem_of_getElem? (i := 22) rfl))) (notFace_of_selects (args := #[]) (mvT hZ (hw _ (List.mem_of_getElem? (i := 24) rfl)))) (mvT hZ (hw _ (List.mem_of_getElem? (i := 24) rfl))) (mvT hZ (hw _ (List.mem_of_getElem? (i := 23) rfl))) (by decide) (backOf (W := 0) (own_rm4 l Z a0 hw [] b1 (0 : Int32) (q_2 + q_3) (1 : Int32) v65 T56.heap n0 (by omega) (own_t0_1 q_1 q_2 q_3 v54 v65 hdv54 hdv65) f58 f60) hZ (hw _ (List.mem_of_getElem? (i := 25) rfl)) (hw _ (List.mem_of_getElem? (i := 2) rfl)) (by decide) (by decide)) q67a q67c (g := (mkF m 84 #[.val (.long q_1), .second, .val (.long q_2), .second, .val (.long q_3), .second, .val (.int p_4), .val (.ref b1), .val (.int v19)] [(.long (q_2 + q_3)), (.int (0 : Int32)), (.ref b1)])) rfl (by rw [hml]; rfl) (Steps.refl _) (argsL := [(.int (0 : Int32)), (.long (q_2 + q_3))]) (rest := []) (lenOf own_pd3 rfl) rfl (by show 2 * 0 + _ ≤ _; exact Nat.le_of_eq rfl) (hb hby at_84) (fun _ _ => ⟨rfl, rfl, (by show k56 + _ ≤ _; rw [y56]; decide), (by show n56 + _ ≤ _; rw [z56]; decide)⟩)
      dsimp only [Pt.U, Pt.locs, Pt.cells, Pt.slots] at X67 l67 y67 z67 st67 hQ67
      have y67 : k67 = 2 := own_addeq y67 (congrArg (fun q => q) y56) rfl
      have z67 : n67 = 12 := own_addeq z67 (congrArg (fun q => q) z56) rfl
      obtain ⟨rfl, N67q, e67⟩ := hQ67
      have N67 : Fr n0 L67 := by rw [l67]; exact Fr.app N56 N67q
      refine own_go (fun _ k => st67.trans k) ?_
      show own_Go _ _ _ _ T67 (mkF m 87 #[.val (.long q_1), .second, .val (.long q_2), .second, .val (.long q_3), .second, .val (.int p_4), .val (.ref b1), .val (.int v19)] [])
      refine own_go (fun _ k => XS.iconst X67.here hx rfl (hb hby at_87) k) ?_
      show own_Go _ _ _ _ T67 (mkF m 88 #[.val (.long q_1), .second, .val (.long q_2), .second, .val (.long q_3), .second, .val (.int p_4), .val (.ref b1), .val (.int v19)] [(.int (1 : Int32))])
      obtain ⟨fs, hr, hrun, hended, hW, hsame⟩ := X67.leave (v := some (.int (1 : Int32))) (fun h => by rw [Bd.returns] at h; cases h)
      refine ⟨_, _, retOut X67 hx Bd.returns rfl (Or.inl ⟨rfl, Or.inr (Or.inl rfl), _, rfl⟩) (hb hby at_88) hr, hrun, hended, _, _, rfl, ?_, ⟨_, rfl⟩, hW, hsame.mono (by rw [y67]; decide) (by rw [z67]; decide)⟩
      show own_Q0 Z q_1 q_2 q_3 p_4 h0 n0 _ T67.heap _
      rw [e67]
      exact ⟨rfl, N67⟩
    · refine own_go (fun _ k => XS.icmpYes X9.here hx rfl (pc0 := 37) (pc' := 50) rfl (hb hby at_37) rfl (Jvm.Free.XT.ii_ne_t hc44) (by decide) (by decide) k) ?_
      show own_Go _ _ _ _ T9 (mkF m 50 #[.val (.long q_1), .second, .val (.long q_2), .second, .val (.long q_3), .second, .val (.int p_4), .val (.ref b1), .val (.int v19)] [])
      refine own_go (fun _ k => XS.iload X9.here hx rfl (hb hby at_50) rfl k) ?_
      show own_Go _ _ _ _ T9 (mkF m 52 #[.val (.long q_1), .second, .val (.long q_2), .second, .val (.long q_3), .second, .val (.int p_4), .val (.ref b1), .val (.int v19)] [(.int v19)])
      refine own_go (fun _ k => XS.iconst X9.here hx rfl (hb hby at_52) k) ?_
      show own_Go _ _ _ _ T9 (mkF m 53 #[.val (.long q_1), .second, .val (.long q_2), .second, .val (.long q_3), .second, .val (.int p_4), .val (.ref b1), .val (.int v19)] [(.int (3 : Int32)), (.int v19)])
      by_cases hc69 : v19 = (3 : Int32)
      · refine own_go (fun _ k => XS.icmpNo X9.here hx rfl (hb hby at_53) rfl (Jvm.Free.XT.ii_ne_f hc69) k) ?_
        show own_Go _ _ _ _ T9 (mkF m 56 #[.val (.long q_1), .second, .val (.long q_2), .second, .val (.long q_3), .second, .val (.int p_4), .val (.ref b1), .val (.int v19)] [])
        refine own_go (fun _ k => XS.aload X9.here hx rfl (hb hby at_56) rfl rfl k) ?_
        show own_Go _ _ _ _ T9 (mkF m 58 #[.val (.long q_1), .second, .val (.long q_2), .second, .val (.long q_3), .second, .val (.int p_4), .val (.ref b1), .val (.int v19)] [(.ref b1)])
        refine own_go (fun _ k => XS.lloadN X9.here hx rfl (hb hby at_58) rfl k) ?_
        show own_Go _ _ _ _ T9 (mkF m 59 #[.val (.long q_1), .second, .val (.long q_2), .second, .val (.long q_3), .second, .val (.int p_4), .val (.ref b1), .val (.int v19)] [(.long q_1), (.ref b1)])
        obtain ⟨cq70, kq70, q70a, q70b, q70c⟩ := isOf hZ rfl f10
        obtain ⟨_, _, ⟨T70, L70, k70, n70⟩, -, X70, ⟨Lc70, hQ70, l70, y70, z70⟩, st70⟩ := X9.virtualBack hx (y := (⟨"com/example/tessera/tessera/ByteSource", "markSkippedData", "(J)V"⟩ : MethodName)) (z := (⟨"com/example/tessera/tessera/ByteSource", "markSkippedData", "(J)V"⟩ : MethodName)) hown (mvT hZ (hw _ (List.mem_of_getElem? (i := 26) rfl))) (mvT hZ (hw _ (List.mem_of_getElem? (i := 27) rfl))) (notFace_of_selects (args := #[]) (mvT hZ (hw _ (List.mem_of_getElem? (i := 29) rfl)))) (mvT hZ (hw _ (List.mem_of_getElem? (i := 29) rfl))) (mvT hZ (hw _ (List.mem_of_getElem? (i := 28) rfl))) (by decide) (backOf (W := 0) (own_rm5 l Z a0 hw [] b1 q_1 (1 : Int32) (.ref b3) (0 : Int64) T9.heap n0 (by omega) f10 f11 f12 f13 (by omega)) hZ (hw _ (List.mem_of_getElem? (i := 30) rfl)) (hw _ (List.mem_of_getElem? (i := 2) rfl)) (by decide) (by decide)) q70a q70c (g := (mkF m 59 #[.val (.long q_1), .second, .val (.long q_2), .second, .val (.long q_3), .second, .val (.int p_4), .val (.ref b1), .val (.int v19)] [(.long q_1), (.ref b1)])) rfl (by rw [hml]; rfl) (Steps.refl _) (argsL := [(.long q_1)]) (rest := []) (lenOf own_pd1 rfl) rfl (by show 2 * 0 + _ ≤ _; exact Nat.le_of_eq rfl) (hb hby at_59) (fun _ _ => ⟨rfl, rfl, (by show k9 + _ ≤ _; rw [y9]; decide), (by show n9 + _ ≤ _; rw [z9]; decide)⟩)
        dsimp only [Pt.U, Pt.locs, Pt.cells, Pt.slots] at X70 l70 y70 z70 st70 hQ70
        have y70 : k70 = 2 := own_addeq y70 (congrArg (fun q => q) y9) rfl
        have z70 : n70 = 12 := own_addeq z70 (congrArg (fun q => q) z9) rfl
        obtain ⟨rfl, N70q, K70q, f71, f72, f73, f74⟩ := hQ70
        have N70 : Fr n0 L70 := by rw [l70]; exact Fr.app N9 N70q
        have z75 := K70q.1
        have z76 := f71.lt
        have z77 := f72.lt
        have z78 := f73.lt
        have z79 := f74.lt
        refine own_go (fun _ k => st70.trans k) ?_
        show own_Go _ _ _ _ T70 (mkF m 62 #[.val (.long q_1), .second, .val (.long q_2), .second, .val (.long q_3), .second, .val (.int p_4), .val (.ref b1), .val (.int v19)] [])
        refine own_go (fun _ k => XS.aload X70.here hx rfl (hb hby at_62) rfl rfl k) ?_
        show own_Go _ _ _ _ T70 (mkF m 64 #[.val (.long q_1), .second, .val (.long q_2), .second, .val (.long q_3), .second, .val (.int p_4), .val (.ref b1), .val (.int v19)] [(.ref b1)])
        refine own_go (fun _ k => XS.lloadN X70.here hx rfl (hb hby at_64) rfl k) ?_
        show own_Go _ _ _ _ T70 (mkF m 65 #[.val (.long q_1), .second, .val (.long q_2), .second, .val (.long q_3), .second, .val (.int p_4), .val (.ref b1), .val (.int v19)] [(.long q_2), (.ref b1)])
        refine own_go (fun _ k => XS.lloadN X70.here hx rfl (hb hby at_65) rfl k) ?_
        show own_Go _ _ _ _ T70 (mkF m 66 #[.val (.long q_1), .second, .val (.long q_2), .second, .val (.long q_3), .second, .val (.int p_4), .val (.ref b1), .val (.int v19)] [(.long q_1), (.long q_2), (.ref b1)])
        obtain ⟨cq80, kq80, q80a, q80b, q80c⟩ := isOf hZ rfl f71
        obtain ⟨_, _, ⟨T80, L80, k80, n80⟩, -, X80, ⟨Lc80, hQ80, l80, y80, z80⟩, st80⟩ := X70.virtualBack hx (y := (⟨"com/example/tessera/tessera/ByteSource", "markRead", "(JJ)V"⟩ : MethodName)) (z := (⟨"com/example/tessera/tessera/ByteSource", "markRead", "(JJ)V"⟩ : MethodName)) hown (mvT hZ (hw _ (List.mem_of_getElem? (i := 14) rfl))) (mvT hZ (hw _ (List.mem_of_getElem? (i := 15) rfl))) (notFace_of_selects (args := #[]) (mvT hZ (hw _ (List.mem_of_getElem? (i := 17) rfl)))) (mvT hZ (hw _ (List.mem_of_getElem? (i := 17) rfl))) (mvT hZ (hw _ (List.mem_of_getElem? (i := 16) rfl))) (by decide) (backOf (W := 0) (own_rm3 l Z a0 hw [] b1 q_2 q_1 (0 : Int32) (.ref b3) q_1 T70.heap n0 (by omega) f71 f72 f73 f74 (by omega)) hZ (hw _ (List.mem_of_getElem? (i := 18) rfl)) (hw _ (List.mem_of_getElem? (i := 2) rfl)) (by decide) (by decide)) q80a q80c (g := (mkF m 66 #[.val (.long q_1), .second, .val (.long q_2), .second, .val (.long q_3), .second, .val (.int p_4), .val (.ref b1), .val (.int v19)] [(.long q_1), (.long q_2), (.ref b1)])) rfl (by rw [hml]; rfl) (Steps.refl _) (argsL := [(.long q_2), (.long q_1)]) (rest := []) (lenOf own_pd2 rfl) rfl (by show 2 * 0 + _ ≤ _; exact Nat.le_of_eq rfl) (hb hby at_66) (fun _ _ => ⟨rfl, rfl, (by show k70 + _ ≤ _; rw [y70]; decide), (by show n70 + _ ≤ _; rw [z70]; decide)⟩)
        dsimp only [Pt.U, Pt.locs, Pt.cells, Pt.slots] at X80 l80 y80 z80 st80 hQ80
        have y80 : k80 = 2 := own_addeq y80 (congrArg (fun q => q) y70) rfl
        have z80 : n80 = 12 := own_addeq z80 (congrArg (fun q => q) z70) rfl
        obtain ⟨rfl, N80q, K80q, f81, f82, f83, f84⟩ := hQ80
        have N80 : Fr n0 L80 := by rw [l80]; exact Fr.app N70 N80q
        have z85 := K80q.1
        have z86 := f81.lt
        have z87 := f82.lt
        have z88 := f83.lt
        obtain ⟨v89, hdv89⟩ : ∃ z : Int64, z = (q_2 + q_1) := ⟨_, rfl⟩
        rw [← hdv89] at f84
        have z90 := f84.lt
        refine own_go (fun _ k => st80.trans k) ?_
        show own_Go _ _ _ _ T80 (mkF m 69 #[.val (.long q_1), .second, .val (.long q_2), .second, .val (.long q_3), .second, .val (.int p_4), .val (.ref b1), .val (.int v19)] [])
        refine own_go (fun _ k => XS.aload X80.here hx rfl (hb hby at_69) rfl rfl k) ?_
        show own_Go _ _ _ _ T80 (mkF m 71 #[.val (.long q_1), .second, .val (.long q_2), .second, .val (.long q_3), .second, .val (.int p_4), .val (.ref b1), .val (.int v19)] [(.ref b1)])
        refine own_go (fun _ k => XS.lloadN X80.here hx rfl (hb hby at_71) rfl k) ?_
        show own_Go _ _ _ _ T80 (mkF m 72 #[.val (.long q_1), .second, .val (.long q_2), .second, .val (.long q_3), .second, .val (.int p_4), .val (.ref b1), .val (.int v19)] [(.long q_2), (.ref b1)])
        refine own_go (fun _ k => XS.lload X80.here hx rfl (hb hby at_72) rfl k) ?_
        show own_Go _ _ _ _ T80 (mkF m 74 #[.val (.long q_1), .second, .val (.long q_2), .second, .val (.long q_3), .second, .val (.int p_4), .val (.ref b1), .val (.int v19)] [(.long q_3), (.long q_2), (.ref b1)])
        obtain ⟨cq91, kq91, q91a, q91b, q91c⟩ := isOf hZ rfl f81
        obtain ⟨_, _, ⟨T91, L91, k91, n91⟩, -, X91, ⟨Lc91, hQ91, l91, y91, z91⟩, st91⟩ := X80.virtualBack hx (y := (⟨"com/example/tessera/tessera/ByteSource", "markRead", "(JJ)V"⟩ : MethodName)) (z := (⟨"com/example/tessera/tessera/ByteSource", "markRead", "(JJ)V"⟩ : MethodName)) hown (mvT hZ (hw _ (List.mem_of_getElem? (i := 14) rfl))) (mvT hZ (hw _ (List.mem_of_getElem? (i := 15) rfl))) (notFace_of_selects (args := #[]) (mvT hZ (hw _ (List.mem_of_getElem? (i := 17) rfl)))) (mvT hZ (hw _ (List.mem_of_getElem? (i := 17) rfl))) (mvT hZ (hw _ (List.mem_of_getElem? (i := 16) rfl))) (by decide) (backOf (W := 0) (own_rm3 l Z a0 hw [] b1 q_2 q_3 (1 : Int32) (.ref b3) v89 T80.heap n0 (by omega) f81 f82 f83 f84 (by omega)) hZ (hw _ (List.mem_of_getElem? (i := 18) rfl)) (hw _ (List.mem_of_getElem? (i := 2) rfl)) (by decide) (by decide)) q91a q91c (g := (mkF m 74 #[.val (.long q_1), .second, .val (.long q_2), .second, .val (.long q_3), .second, .val (.int p_4), .val (.ref b1), .val (.int v19)] [(.long q_3), (.long q_2), (.ref b1)])) rfl (by rw [hml]; rfl) (Steps.refl _) (argsL := [(.long q_2), (.long q_3)]) (rest := []) (lenOf own_pd2 rfl) rfl (by show 2 * 0 + _ ≤ _; exact Nat.le_of_eq rfl) (hb hby at_74) (fun _ _ => ⟨rfl, rfl, (by show k80 + _ ≤ _; rw [y80]; decide), (by show n80 + _ ≤ _; rw [z80]; decide)⟩)
        dsimp only [Pt.U, Pt.locs, Pt.cells, Pt.slots] at X91 l91 y91 z91 st91 hQ91
        have y91 : k91 = 2 := own_addeq y91 (congrArg (fun q => q) y80) rfl
        have z91 : n91 = 12 := own_addeq z91 (congrArg (fun q => q) z80) rfl
        obtain ⟨rfl, N91q, K91q, f92, f93, f94, f95⟩ := hQ91
        have N91 : Fr n0 L91 := by rw [l91]; exact Fr.app N80 N91q
        have z96 := K91q.1
        have z97 := f92.lt
        have z98 := f93.lt
        have z99 := f94.lt
        obtain ⟨v100, hdv100⟩ : ∃ z : Int64, z = (q_2 + q_3) := ⟨_, rfl⟩
        rw [← hdv100] at f95
        have z101 := f95.lt
        refine own_go (fun _ k => st91.trans k) ?_
        show own_Go _ _ _ _ T91 (mkF m 77 #[.val (.long q_1), .second, .val (.long q_2), .second, .val (.long q_3), .second, .val (.int p_4), .val (.ref b1), .val (.int v19)] [])
        refine own_go (fun _ k => XS.aload X91.here hx rfl (hb hby at_77) rfl rfl k) ?_
        show own_Go _ _ _ _ T91 (mkF m 79 #[.val (.long q_1), .second, .val (.long q_2), .second, .val (.long q_3), .second, .val (.int p_4), .val (.ref b1), .val (.int v19)] [(.ref b1)])
        refine own_go (fun _ k => XS.iconst X91.here hx rfl (hb hby at_79) k) ?_
        show own_Go _ _ _ _ T91 (mkF m 80 #[.val (.long q_1), .second, .val (.long q_2), .second, .val (.long q_3), .second, .val (.int p_4), .val (.ref b1), .val (.int v19)] [(.int (0 : Int32)), (.ref b1)])
        refine own_go (fun _ k => XS.lloadN X91.here hx rfl (hb hby at_80) rfl k) ?_
        show own_Go _ _ _ _ T91 (mkF m 81 #[.val (.long q_1), .second, .val (.long q_2), .second, .val (.long q_3), .second, .val (.int p_4), .val (.ref b1), .val (.int v19)] [(.long q_2), (.int (0 : Int32)), (.ref b1)])
        refine own_go (fun _ k => XS.lload X91.here hx rfl (hb hby at_81) rfl k) ?_
        show own_Go _ _ _ _ T91 (mkF m 83 #[.val (.long q_1), .second, .val (.long q_2), .second, .val (.long q_3), .second, .val (.int p_4), .val (.ref b1), .val (.int v19)] [(.long q_3), (.long q_2), (.int (0 : Int32)), (.ref b1)])
        refine own_go (fun _ k => XS.ladd X91.here hx rfl (hb hby at_83) rfl k) ?_
        show own_Go _ _ _ _ T91 (mkF m 84 #[.val (.long q_1), .second, .val (.long q_2), .second, .val (.long q_3), .second, .val (.int p_4), .val (.ref b1), .val (.int v19)] [(.long (q_2 + q_3)), (.int (0 : Int32)), (.ref b1)])
        obtain ⟨cq102, kq102, q102a, q102b, q102c⟩ := isOf hZ rfl f92
        obtain ⟨_, _, ⟨T102, L102, k102, n102⟩, -, X102, ⟨Lc102, hQ102, l102, y102, z102⟩, st102⟩ := X91.virtualBack hx (y := (⟨"com/example/tessera/tessera/ByteSource", "requireTarget", "(IJ)V"⟩ : MethodName)) (z := (⟨"com/example/tessera/tessera/ByteSource", "requireTarget", "(IJ)V"⟩ : MethodName)) hown (mvT hZ (hw _ (List.mem_of_getElem? (i := 21) rfl))) (mvT hZ (hw _ (List.mem_of_getElem? (i := 22) rfl))) (notFace_of_selects (args := #[]) (mvT hZ (hw _ (List.mem_of_getElem? (i := 24) rfl)))) (mvT hZ (hw _ (List.mem_of_getElem? (i := 24) rfl))) (mvT hZ (hw _ (List.mem_of_getElem? (i := 23) rfl))) (by decide) (backOf (W := 0) (own_rm4 l Z a0 hw [] b1 (0 : Int32) (q_2 + q_3) (1 : Int32) v100 T91.heap n0 (by omega) (own_t0_2 q_1 q_2 q_3 v89 v100 hdv89 hdv100) f93 f95) hZ (hw _ (List.mem_of_getElem? (i := 25) rfl)) (hw _ (List.mem_of_getElem? (i := 2) rfl)) (by decide) (by decide)) q102a q102c (g := (mkF m 84 #[.val (.long q_1), .second, .val (.long q_2), .second, .val (.long q_3), .second, .val (.int p_4), .val (.ref b1), .val (.int v19)] [(.long (q_2 + q_3)), (.int (0 : Int32)), (.ref b1)])) rfl (by rw [hml]; rfl) (Steps.refl _) (argsL := [(.int (0 : Int32)), (.long (q_2 + q_3))]) (rest := []) (lenOf own_pd3 rfl) rfl (by show 2 * 0 + _ ≤ _; exact Nat.le_of_eq rfl) (hb hby at_84) (fun _ _ => ⟨rfl, rfl, (by show k91 + _ ≤ _; rw [y91]; decide), (by show n91 + _ ≤ _; rw [z91]; decide)⟩)
        dsimp only [Pt.U, Pt.locs, Pt.cells, Pt.slots] at X102 l102 y102 z102 st102 hQ102
        have y102 : k102 = 2 := own_addeq y102 (congrArg (fun q => q) y91) rfl
        have z102 : n102 = 12 := own_addeq z102 (congrArg (fun q => q) z91) rfl
        obtain ⟨rfl, N102q, e102⟩ := hQ102
        have N102 : Fr n0 L102 := by rw [l102]; exact Fr.app N91 N102q
        refine own_go (fun _ k => st102.trans k) ?_
        show own_Go _ _ _ _ T102 (mkF m 87 #[.val (.long q_1), .second, .val (.long q_2), .second, .val (.long q_3), .second, .val (.int p_4), .val (.ref b1), .val (.int v19)] [])
        refine own_go (fun _ k => XS.iconst X102.here hx rfl (hb hby at_87) k) ?_
        show own_Go _ _ _ _ T102 (mkF m 88 #[.val (.long q_1), .second, .val (.long q_2), .second, .val (.long q_3), .second, .val (.int p_4), .val (.ref b1), .val (.int v19)] [(.int (1 : Int32))])
        obtain ⟨fs, hr, hrun, hended, hW, hsame⟩ := X102.leave (v := some (.int (1 : Int32))) (fun h => by rw [Bd.returns] at h; cases h)
        refine ⟨_, _, retOut X102 hx Bd.returns rfl (Or.inl ⟨rfl, Or.inr (Or.inl rfl), _, rfl⟩) (hb hby at_88) hr, hrun, hended, _, _, rfl, ?_, ⟨_, rfl⟩, hW, hsame.mono (by rw [y102]; decide) (by rw [z102]; decide)⟩
        show own_Q0 Z q_1 q_2 q_3 p_4 h0 n0 _ T102.heap _
        rw [e102]
        exact ⟨rfl, N102⟩
      · refine own_go (fun _ k => XS.icmpYes X9.here hx rfl (pc0 := 53) (pc' := 69) rfl (hb hby at_53) rfl (Jvm.Free.XT.ii_ne_t hc69) (by decide) (by decide) k) ?_
        show own_Go _ _ _ _ T9 (mkF m 69 #[.val (.long q_1), .second, .val (.long q_2), .second, .val (.long q_3), .second, .val (.int p_4), .val (.ref b1), .val (.int v19)] [])
        refine own_go (fun _ k => XS.aload X9.here hx rfl (hb hby at_69) rfl rfl k) ?_
        show own_Go _ _ _ _ T9 (mkF m 71 #[.val (.long q_1), .second, .val (.long q_2), .second, .val (.long q_3), .second, .val (.int p_4), .val (.ref b1), .val (.int v19)] [(.ref b1)])
        refine own_go (fun _ k => XS.lloadN X9.here hx rfl (hb hby at_71) rfl k) ?_
        show own_Go _ _ _ _ T9 (mkF m 72 #[.val (.long q_1), .second, .val (.long q_2), .second, .val (.long q_3), .second, .val (.int p_4), .val (.ref b1), .val (.int v19)] [(.long q_2), (.ref b1)])
        refine own_go (fun _ k => XS.lload X9.here hx rfl (hb hby at_72) rfl k) ?_
        show own_Go _ _ _ _ T9 (mkF m 74 #[.val (.long q_1), .second, .val (.long q_2), .second, .val (.long q_3), .second, .val (.int p_4), .val (.ref b1), .val (.int v19)] [(.long q_3), (.long q_2), (.ref b1)])
        obtain ⟨cq104, kq104, q104a, q104b, q104c⟩ := isOf hZ rfl f10
        obtain ⟨_, _, ⟨T104, L104, k104, n104⟩, -, X104, ⟨Lc104, hQ104, l104, y104, z104⟩, st104⟩ := X9.virtualBack hx (y := (⟨"com/example/tessera/tessera/ByteSource", "markRead", "(JJ)V"⟩ : MethodName)) (z := (⟨"com/example/tessera/tessera/ByteSource", "markRead", "(JJ)V"⟩ : MethodName)) hown (mvT hZ (hw _ (List.mem_of_getElem? (i := 14) rfl))) (mvT hZ (hw _ (List.mem_of_getElem? (i := 15) rfl))) (notFace_of_selects (args := #[]) (mvT hZ (hw _ (List.mem_of_getElem? (i := 17) rfl)))) (mvT hZ (hw _ (List.mem_of_getElem? (i := 17) rfl))) (mvT hZ (hw _ (List.mem_of_getElem? (i := 16) rfl))) (by decide) (backOf (W := 0) (own_rm3 l Z a0 hw [] b1 q_2 q_3 (1 : Int32) (.ref b3) (0 : Int64) T9.heap n0 (by omega) f10 f11 f12 f13 (by omega)) hZ (hw _ (List.mem_of_getElem? (i := 18) rfl)) (hw _ (List.mem_of_getElem? (i := 2) rfl)) (by decide) (by decide)) q104a q104c (g := (mkF m 74 #[.val (.long q_1), .second, .val (.long q_2), .second, .val (.long q_3), .second, .val (.int p_4), .val (.ref b1), .val (.int v19)] [(.long q_3), (.long q_2), (.ref b1)])) rfl (by rw [hml]; rfl) (Steps.refl _) (argsL := [(.long q_2), (.long q_3)]) (rest := []) (lenOf own_pd2 rfl) rfl (by show 2 * 0 + _ ≤ _; exact Nat.le_of_eq rfl) (hb hby at_74) (fun _ _ => ⟨rfl, rfl, (by show k9 + _ ≤ _; rw [y9]; decide), (by show n9 + _ ≤ _; rw [z9]; decide)⟩)
        dsimp only [Pt.U, Pt.locs, Pt.cells, Pt.slots] at X104 l104 y104 z104 st104 hQ104
        have y104 : k104 = 2 := own_addeq y104 (congrArg (fun q => q) y9) rfl
        have z104 : n104 = 12 := own_addeq z104 (congrArg (fun q => q) z9) rfl
        obtain ⟨rfl, N104q, K104q, f105, f106, f107, f108⟩ := hQ104
        have N104 : Fr n0 L104 := by rw [l104]; exact Fr.app N9 N104q
        have z109 := K104q.1
        have z110 := f105.lt
        have z111 := f106.lt
        have z112 := f107.lt
        obtain ⟨v113, hdv113⟩ : ∃ z : Int64, z = (q_2 + q_3) := ⟨_, rfl⟩
        rw [← hdv113] at f108
        have z114 := f108.lt
        refine own_go (fun _ k => st104.trans k) ?_
        show own_Go _ _ _ _ T104 (mkF m 77 #[.val (.long q_1), .second, .val (.long q_2), .second, .val (.long q_3), .second, .val (.int p_4), .val (.ref b1), .val (.int v19)] [])
        refine own_go (fun _ k => XS.aload X104.here hx rfl (hb hby at_77) rfl rfl k) ?_
        show own_Go _ _ _ _ T104 (mkF m 79 #[.val (.long q_1), .second, .val (.long q_2), .second, .val (.long q_3), .second, .val (.int p_4), .val (.ref b1), .val (.int v19)] [(.ref b1)])
        refine own_go (fun _ k => XS.iconst X104.here hx rfl (hb hby at_79) k) ?_
        show own_Go _ _ _ _ T104 (mkF m 80 #[.val (.long q_1), .second, .val (.long q_2), .second, .val (.long q_3), .second, .val (.int p_4), .val (.ref b1), .val (.int v19)] [(.int (0 : Int32)), (.ref b1)])
        refine own_go (fun _ k => XS.lloadN X104.here hx rfl (hb hby at_80) rfl k) ?_
        show own_Go _ _ _ _ T104 (mkF m 81 #[.val (.long q_1), .second, .val (.long q_2), .second, .val (.long q_3), .second, .val (.int p_4), .val (.ref b1), .val (.int v19)] [(.long q_2), (.int (0 : Int32)), (.ref b1)])
        refine own_go (fun _ k => XS.lload X104.here hx rfl (hb hby at_81) rfl k) ?_
        show own_Go _ _ _ _ T104 (mkF m 83 #[.val (.long q_1), .second, .val (.long q_2), .second, .val (.long q_3), .second, .val (.int p_4), .val (.ref b1), .val (.int v19)] [(.long q_3), (.long q_2), (.int (0 : Int32)), (.ref b1)])
        refine own_go (fun _ k => XS.ladd X104.here hx rfl (hb hby at_83) rfl k) ?_
        show own_Go _ _ _ _ T104 (mkF m 84 #[.val (.long q_1), .second, .val (.long q_2), .second, .val (.long q_3), .second, .val (.int p_4), .val (.ref b1), .val (.int v19)] [(.long (q_2 + q_3)), (.int (0 : Int32)), (.ref b1)])
        obtain ⟨cq115, kq115, q115a, q115b, q115c⟩ := isOf hZ rfl f105
        obtain ⟨_, _, ⟨T115, L115, k115, n115⟩, -, X115, ⟨Lc115, hQ115, l115, y115, z115⟩, st115⟩ := X104.virtualBack hx (y := (⟨"com/example/tessera/tessera/ByteSource", "requireTarget", "(IJ)V"⟩ : MethodName)) (z := (⟨"com/example/tessera/tessera/ByteSource", "requireTarget", "(IJ)V"⟩ : MethodName)) hown (mvT hZ (hw _ (List.mem_of_getElem? (i := 21) rfl))) (mvT hZ (hw _ (List.mem_of_getElem? (i := 22) rfl))) (notFace_of_selects (args := #[]) (mvT hZ (hw _ (List.mem_of_getElem? (i := 24) rfl)))) (mvT hZ (hw _ (List.mem_of_getElem? (i := 24) rfl))) (mvT hZ (hw _ (List.mem_of_getElem? (i := 23) rfl))) (by decide) (backOf (W := 0) (own_rm4 l Z a0 hw [] b1 (0 : Int32) (q_2 + q_3) (1 : Int32) v113 T104.heap n0 (by omega) (own_t0_3 q_2 q_3 v113 hdv113) f106 f108) hZ (hw _ (List.mem_of_getElem? (i := 25) rfl)) (hw _ (List.mem_of_getElem? (i := 2) rfl)) (by decide) (by decide)) q115a q115c (g := (mkF m 84 #[.val (.long q_1), .second, .val (.long q_2), .second, .val (.long q_3), .second, .val (.int p_4), .val (.ref b1), .val (.int v19)] [(.long (q_2 + q_3)), (.int (0 : Int32)), (.ref b1)])) rfl (by rw [hml]; rfl) (Steps.refl _) (argsL := [(.int (0 : Int32)), (.long (q_2 + q_3))]) (rest := []) (lenOf own_pd3 rfl) rfl (by show 2 * 0 + _ ≤ _; exact Nat.le_of_eq rfl) (hb hby at_84) (fun _ _ => ⟨rfl, rfl, (by show k104 + _ ≤ _; rw [y104]; decide), (by show n104 + _ ≤ _; rw [z104]; decide)⟩)
        dsimp only [Pt.U, Pt.locs, Pt.cells, Pt.slots] at X115 l115 y115 z115 st115 hQ115
        have y115 : k115 = 2 := own_addeq y115 (congrArg (fun q => q) y104) rfl
        have z115 : n115 = 12 := own_addeq z115 (congrArg (fun q => q) z104) rfl
        obtain ⟨rfl, N115q, e115⟩ := hQ115
        have N115 : Fr n0 L115 := by rw [l115]; exact Fr.app N104 N115q
        refine own_go (fun _ k => st115.trans k) ?_
        show own_Go _ _ _ _ T115 (mkF m 87 #[.val (.long q_1), .second, .val (.long q_2), .second, .val (.long q_3), .second, .val (.int p_4), .val (.ref b1), .val (.int v19)] [])
        refine own_go (fun _ k => XS.iconst X115.here hx rfl (hb hby at_87) k) ?_
        show own_Go _ _ _ _ T115 (mkF m 88 #[.val (.long q_1), .second, .val (.long q_2), .second, .val (.long q_3), .second, .val (.int p_4), .val (.ref b1), .val (.int v19)] [(.int (1 : Int32))])
        obtain ⟨fs, hr, hrun, hended, hW, hsame⟩ := X115.leave (v := some (.int (1 : Int32))) (fun h => by rw [Bd.returns] at h; cases h)
        refine ⟨_, _, retOut X115 hx Bd.returns rfl (Or.inl ⟨rfl, Or.inr (Or.inl rfl), _, rfl⟩) (hb hby at_88) hr, hrun, hended, _, _, rfl, ?_, ⟨_, rfl⟩, hW, hsame.mono (by rw [y115]; decide) (by rw [z115]; decide)⟩
        show own_Q0 Z q_1 q_2 q_3 p_4 h0 n0 _ T115.heap _
        rw [e115]
        exact ⟨rfl, N115⟩
set_option maxRecDepth 65536 in
set_option maxHeartbeats 40000000 in
theorem comes_1 {Post : Tables → Env → Array Value → State → Outcome → State → Prop} (hpost : ∀ tb e args s v u, (limb_1_1.after args s (.returned v) u = true ∧ limb_1_2.after args s (.returned v) u = true ∧ True) → FrameEnd s (.returned v) u (Jvm.fieldLocs frame_1_writes args s ++ Jvm.arrayLocs frame_1_arrays args s ++ Jvm.staticLocs frame_1_statics s) 16 128 → Post tb e args s (.returned v) u) :
    ArmFor flags0 classFile x code maxLocals ret World_1 tables_1 room_1 Calls_1 rest_1 Pre_1 Post := by
  intro l hfl _ _ p e ha hc hk s m args below hf hA hF happ hP
  obtain ⟨hcalls, hrest, hpre⟩ := hP
  obtain ⟨-, -, -, hnamed, -, -, -, hat⟩ := (Spec.applies_iff hf).mp happ
  obtain ⟨hg, hn⟩ := and_e (Cond.before_iff.mp (show (Jvm.Cond.and given_1 narrow_1).before args s = true from hpre))
  obtain ⟨g1, g2⟩ := and_e hg
  obtain ⟨g3, g4⟩ := and_e g2
  obtain ⟨g5, g6⟩ := and_e g4
  obtain ⟨g7, g8⟩ := and_e g6
  obtain ⟨w0, w1, w2, w3, rfl⟩ : ∃ w0 w1 w2 w3 : Value, args = #[w0, w1, w2, w3] := by
    have hs : args.size = 4 := by simpa [Cond.value, given_1] using g1
    obtain ⟨L⟩ := args
    match L, hs with
    | [w0, w1, w2, w3], _ => exact ⟨w0, w1, w2, w3, rfl⟩
  have hw := fun d (hd : d ∈ tables_1) => atoms_spec (ws := Jvm.Cond.code x code maxLocals ret :: tables_1) hat d (List.mem_cons_of_mem _ hd)
  have hfit : Fit s := fun {y c} hc i hi => by
    obtain ⟨ha, rfl⟩ := Array.getElem?_eq_some_iff.mp hc
    have q := List.all_eq_true.mp ((Array.all_eq_true_iff_forall_mem.mp hF) _ (Array.getElem_mem ha)) i (List.mem_range.mpr hi)
    simpa [Array.getElem?_eq_getElem hi] using q
  obtain ⟨i0, ei0⟩ := isL_v g3
  obtain rfl : w0 = (.long i0) := Option.some.inj ei0
  obtain ⟨i1, ei1⟩ := isL_v g5
  obtain rfl : w1 = (.long i1) := Option.some.inj ei1
  obtain ⟨i2, ei2⟩ := isL_v g7
  obtain rfl : w2 = (.long i2) := Option.some.inj ei2
  obtain ⟨i3, ei3⟩ := is_v g8
  obtain rfl : w3 = (.int i3) := Option.some.inj ei3
  obtain ⟨n, o, h1, h2, h3, _, L, rfl, ⟨rfl, N⟩, hq⟩ := own_rm0 l s _ hw tables_1 i0 i1 i2 i3  s.heap s.heap.size (Nat.le_refl _)  p e ha hc hk s m _ below hf ((Spec.applies_iff_loose hf).mp happ).1 ⟨rfl, State.Warmed39.refl s, rfl⟩ trivial
  refine ⟨n, _, h1, h2, h3, hpost _ _ _ _ _ _ ⟨Cond.after_iff.mpr rfl, Cond.after_iff.mpr (eq_i res_at (Term.int_eval (1)) rfl), trivial⟩ ⟨hq.1, hq.2.1, (hq.2.2.sift fun y hy => Or.inr (N y hy)).mono (by decide) (by decide)⟩⟩
theorem main_1_1 : Claimed_1_1 := comes_1 fun _ _ _ _ _ _ h hF => ⟨h.1, hF⟩
theorem main_1_2 : Claimed_1_2 := comes_1 fun _ _ _ _ _ _ h hF => ⟨h.2.1, hF⟩
end Jvm.Pilot.@@N@@
namespace Jvm.Pilot.@@N@@
open Jvm Jvm.ClassFile Sem Op Lib Jvm.Free Jvm.Stand Jvm.Pilot.@@N@@.Jvm.D
/-! MADE BY PROGRAM (witnessworld.py) out of the Statement's table words and the real class files: 9 classes; the members and pool entries that the words name. The judged class is class 1, her method 1. -/
namespace start1
open Jvm.ClassFile
def u (s : String) : CpInfo := .utf8 (stringToUtf16 s)
/-- a pool by its gaps: so many unusable entries, then the entry; so many at the end -/
def gap : Nat → List CpInfo → List CpInfo
  | 0, r => r
  | n + 1, r => .unusable :: gap n r
def poolList (es : List (Nat × CpInfo)) (last : Nat) : List CpInfo := es.foldr (fun e r => gap e.1 (e.2 :: r)) (gap last [])
def pool (es : List (Nat × CpInfo)) (last : Nat) : Array CpInfo := ⟨poolList es last⟩
def fileOf (pool : Array CpInfo) (this : Nat) (attrs : Array Attribute := #[]) (ms : Array MethodInfo := #[]) (fl : Nat := 33) (sup : Nat := 0) (ifs : Array Nat := #[]) (fds : Array FieldInfo := #[]) : ClassFile where
  minorVersion := 0
  majorVersion := 65
  constantPool := pool
  accessFlags := fl
  thisClass := this
  superClass := sup
  interfaces := ifs
  fields := fds
  methods := ms
  attributes := attrs
def plain (name : String) (sup : Option ClassId) : Class where
  name := name
  kind := .ordinary
  loader := none
  accessFlags := 33
  super := sup
  interfaces := #[]
  cf := none
  fields := #[]
  methods := #[]
  instanceTypes := #[]
  staticTypes := #[]
  resolved := #[]
  callSites := []
  init := .initialized
  statics := none
  mirror := none

def pool0 : Array CpInfo := pool [(5, u "<init>"), (0, u "()V"), (1, .class_ 10), (1, u "java/lang/Object")] 113

def k0c0 : Code := { maxStack := 0, maxLocals := 1, code := object_method_1_code, exceptionTable := #[], attributes := #[] }
def k0m0 : Method := { name := "<init>", desc := "()V", sig := { parameters := [], returnType := none }, accessFlags := 1, code := some k0c0 }
/-- java/lang/Object -/
def k0 : Class := { plain "java/lang/Object" none with
  accessFlags := 33
  interfaces := #[]
  cf := some (fileOf pool0 8 #[] #[{ accessFlags := 1, nameIndex := 5, descriptorIndex := 6, attributes := #[] }] 33 0 #[] #[])
  fields := #[]
  methods := #[k0m0]
  instanceTypes := #[]
  staticTypes := #[]
  resolved := Array.replicate 124 none
  statics := none }

def pool1 : Array CpInfo := pool [(2, .class_ 4), (1, u "java/lang/Object"), (0, u "<init>"), (0, u "()V"), (0, .class_ 8), (0, u "com/example/tessera/tessera/ByteSource"), (0, .methodref 7 10), (0, .nameAndType 5 11), (0, u "([B)V"), (0, .methodref 7 13), (0, .nameAndType 14 15), (0, u "markSkippedData"), (0, u "(J)V"), (0, .methodref 7 17), (0, .nameAndType 18 19), (0, u "markRead"), (0, u "(JJ)V"), (0, .methodref 7 21), (0, .nameAndType 22 23), (0, u "requireTarget"), (0, u "(IJ)V"), (0, .class_ 25), (0, u "com/example/tessera/tessera/ByteSourceMarkReadPinLaw"), (2, u "law"), (0, u "(JJJI)Z")] 3

def k1m0 : Method := { name := "<init>", desc := "()V", sig := { parameters := [], returnType := none }, accessFlags := 1, code := none }
def k1c1 : Code := { maxStack := 6, maxLocals := 9, code := code, exceptionTable := #[], attributes := #[] }
def k1m1 : Method := { name := "law", desc := "(JJJI)Z", sig := { parameters := [.long, .long, .long, .int], returnType := some .boolean }, accessFlags := 9, code := some k1c1 }
/-- com/example/tessera/tessera/ByteSourceMarkReadPinLaw -/
def k1 : Class := { plain "com/example/tessera/tessera/ByteSourceMarkReadPinLaw" (some 0) with
  accessFlags := 49
  interfaces := #[]
  cf := some (fileOf pool1 24 #[] #[{ accessFlags := 1, nameIndex := 5, descriptorIndex := 6, attributes := #[] }, { accessFlags := 9, nameIndex := 28, descriptorIndex := 29, attributes := #[] }] 49 2 #[] #[])
  fields := #[]
  methods := #[k1m0, k1m1]
  instanceTypes := #[]
  staticTypes := #[]
  resolved := Array.replicate 33 none
  statics := none }

def pool2 : Array CpInfo := pool [(1, .methodref 2 3), (0, .class_ 4), (0, .nameAndType 5 6), (0, u "java/lang/Object"), (0, u "<init>"), (0, u "()V"), (0, .fieldref 8 9), (0, .class_ 10), (0, .nameAndType 11 12), (0, u "com/example/tessera/tessera/ByteSource"), (0, u "dataEndExact"), (0, u "Z"), (0, .fieldref 8 14), (0, .nameAndType 15 16), (0, u "bytes"), (0, u "[B"), (3, u "(JJ)V"), (32, u "([B)V"), (67, .fieldref 8 122), (0, .nameAndType 123 124), (0, u "dataEnd"), (0, u "J"), (2, u "levels"), (0, u "I"), (26, u "REPLACEMENT"), (0, u "C"), (11, u "markRead"), (0, u "markSkippedData"), (0, u "(J)V"), (3, u "requireTarget"), (0, u "(IJ)V")] 31

def k2c0 : Code := { maxStack := 2, maxLocals := 2, code := prog_15_method_1_code, exceptionTable := #[], attributes := #[] }
def k2m0 : Method := { name := "<init>", desc := "([B)V", sig := { parameters := [(.array .byte)], returnType := none }, accessFlags := 0, code := some k2c0 }
def k2c1 : Code := { maxStack := 5, maxLocals := 5, code := prog_15_method_11_code, exceptionTable := #[], attributes := #[] }
def k2m1 : Method := { name := "markRead", desc := "(JJ)V", sig := { parameters := [.long, .long], returnType := none }, accessFlags := 0, code := some k2c1 }
def k2c2 : Code := { maxStack := 3, maxLocals := 3, code := prog_15_method_12_code, exceptionTable := #[], attributes := #[] }
def k2m2 : Method := { name := "markSkippedData", desc := "(J)V", sig := { parameters := [.long], returnType := none }, accessFlags := 0, code := some k2c2 }
def k2c3 : Code := { maxStack := 5, maxLocals := 4, code := prog_15_method_15_code, exceptionTable := #[], attributes := #[] }
def k2m3 : Method := { name := "requireTarget", desc := "(IJ)V", sig := { parameters := [.int, .long], returnType := none }, accessFlags := 0, code := some k2c3 }
/-- com/example/tessera/tessera/ByteSource -/
def k2 : Class := { plain "com/example/tessera/tessera/ByteSource" (some 0) with
  accessFlags := 48
  interfaces := #[]
  cf := some (fileOf pool2 8 #[] #[{ accessFlags := 0, nameIndex := 5, descriptorIndex := 53, attributes := #[] }, { accessFlags := 0, nameIndex := 168, descriptorIndex := 20, attributes := #[] }, { accessFlags := 0, nameIndex := 169, descriptorIndex := 170, attributes := #[] }, { accessFlags := 0, nameIndex := 174, descriptorIndex := 175, attributes := #[] }] 48 2 #[] #[{ accessFlags := 26, nameIndex := 155, descriptorIndex := 156, attributes := #[] }, { accessFlags := 18, nameIndex := 15, descriptorIndex := 16, attributes := #[] }, { accessFlags := 2, nameIndex := 123, descriptorIndex := 124, attributes := #[] }, { accessFlags := 2, nameIndex := 11, descriptorIndex := 12, attributes := #[] }, { accessFlags := 2, nameIndex := 127, descriptorIndex := 128, attributes := #[] }])
  fields := #[{ name := "REPLACEMENT", type := .char, accessFlags := 26, slot := 0, constantValue := 0 }, { name := "bytes", type := (.array .byte), accessFlags := 18, slot := 0, constantValue := 0 }, { name := "dataEnd", type := .long, accessFlags := 2, slot := 1, constantValue := 0 }, { name := "dataEndExact", type := .boolean, accessFlags := 2, slot := 2, constantValue := 0 }, { name := "levels", type := .int, accessFlags := 2, slot := 3, constantValue := 0 }]
  methods := #[k2m0, k2m1, k2m2, k2m3]
  instanceTypes := #[(.array .byte), .long, .boolean, .int]
  staticTypes := #[.char]
  resolved := Array.replicate 207 none
  statics := none }

def pool3 : Array CpInfo := pool [(1, u "java/lang/Cloneable"), (0, .class_ 1), (0, u "java/lang/Object"), (0, .class_ 3)] 3

/-- java/lang/Cloneable -/
def k3 : Class := { plain "java/lang/Cloneable" (some 0) with
  accessFlags := 1537
  interfaces := #[]
  cf := some (fileOf pool3 2 #[] #[] 1537 4 #[] #[])
  fields := #[]
  methods := #[]
  instanceTypes := #[]
  staticTypes := #[]
  resolved := Array.replicate 8 none
  statics := none }

def pool4 : Array CpInfo := pool [(1, u "java/io/Serializable"), (0, .class_ 1), (0, u "java/lang/Object"), (0, .class_ 3)] 3

/-- java/io/Serializable -/
def k4 : Class := { plain "java/io/Serializable" (some 0) with
  accessFlags := 1537
  interfaces := #[]
  cf := some (fileOf pool4 2 #[] #[] 1537 4 #[] #[])
  fields := #[]
  methods := #[]
  instanceTypes := #[]
  staticTypes := #[]
  resolved := Array.replicate 8 none
  statics := none }

/-- the primitive byte -/
def k5 : Class := { plain "byte" none with kind := .primitive 'B', accessFlags := 0x411 }
/-- [B -/
def k6 : Class := { plain "[B" (some 0) with kind := .array 5 .byte, interfaces := #[3, 4], accessFlags := 1041 }

/-- the primitive int -/
def k7 : Class := { plain "int" none with kind := .primitive 'I', accessFlags := 0x411 }
/-- [I -/
def k8 : Class := { plain "[I" (some 0) with kind := .array 7 .int, interfaces := #[3, 4], accessFlags := 1041 }

def heap : Heap := #[]
def classes : Array Class := #[k0, k1, k2, k3, k4, k5, k6, k7, k8]
def interned : List (Array UInt16 × Addr) := []
def slotsUsed : Nat := 0
def theMethod : MethodId := ⟨1, 1⟩
def args0 : Array Value := #[.long 1, .long 2, .long 3, .int 4]
def aboutOver (below : List Frame) : State where
  vm := { classes := classes, interned := interned.toArray }
  heap := heap
  slotsUsed := slotsUsed
  threads := #[{ frames := .invoking theMethod args0 :: below }]
def below0 : List Frame := [.native { method := ⟨0, 0⟩, args := #[] }]
def about1 : State := aboutOver below0
def p0 : Program := .bare "" "" ""
def e0 : Env := launch0.env 0 0 0
theorem w_frames : about1.frames = Frame.invoking theMethod args0 :: below0 := rfl
set_option maxRecDepth 65536 in
theorem w_args : argsFit about1.vm theMethod args0 = true := by decide +kernel
set_option maxRecDepth 65536 in
theorem w_heap : heapFits about1 = true := by decide +kernel
set_option maxRecDepth 65536 in
theorem w_runnable : about1.curStatus? = some .runnable := by decide +kernel
set_option maxRecDepth 65536 in
theorem w_alone : about1.alone = true := by decide +kernel
set_option maxRecDepth 65536 in
theorem w_named : about1.methodNamed? x = some theMethod := by decide +kernel
set_option maxRecDepth 65536 in
theorem w_hears : about1.hears theMethod below0 = true := by decide +kernel
set_option maxRecDepth 65536 in
theorem w_ripe : about1.ripe theMethod args0 below0 = true := by decide +kernel
theorem w_running : about1.status = .running := rfl
set_option maxRecDepth 65536 in
theorem w_room : about1.hasRoom e0.platform room_1 = true :=
  launch0.hasRoom_least _ room_1 (by decide +kernel) (by decide +kernel) (by decide +kernel) (by decide +kernel) (by decide +kernel) (by decide +kernel)
theorem allAtoms_all (ts : List Jvm.Cond) (a : Array Jvm.Value) (st : Jvm.State) : (allAtoms ts).before a st = ts.all (fun c => c.before a st) := by
  induction ts with
  | nil => rfl
  | cons c t ih =>
    show (Jvm.Cond.and c (allAtoms t)).before a st = _
    rw [Jvm.Cond.before_and, ih, List.all_cons]
def words1 : List Jvm.Cond := Jvm.Cond.code x code maxLocals ret :: tables_1
/-- a 'code' word, met by the world's own term for the bytes: nothing is compared byte by byte -/
theorem code_word {y : MethodName} {bytes : ByteArray} {mx : Nat} {rt : Option FieldType} {a : Array Value} {s : State} {m : MethodId} {meth : Method} {c : Code} (h1 : s.methodNamed? y = some m) (h2 : s.vm.method? m = some meth) (h3 : meth.code = some c) (h4 : c.code = bytes)
    (h5 : (c.maxLocals == mx && c.exceptionTable.isEmpty && decide (c.maxStack ≤ mostOperands) && decide (meth.sig.returnType = rt) && !meth.locks && decide (parseMethodDescriptor y.desc = some meth.sig)) = true) : (Jvm.Cond.code y bytes mx rt).before a s = true := by
  simp only [Bool.and_eq_true, beq_iff_eq, Bool.not_eq_true', decide_eq_true_eq] at h5
  obtain ⟨⟨⟨⟨⟨g1, g2⟩, g3⟩, g4⟩, g5⟩, g6⟩ := h5
  simp [Cond.before, Cond.holds, Cond.value, h1, h2, h3, h4, g1, g2, g3, g4, g5, g6]
def isCode : Jvm.Cond → Bool
  | .code _ _ _ _ => true
  | _ => false
theorem all_split {L : List Jvm.Cond} {P : Jvm.Cond → Bool} (h1 : L.all (fun c => isCode c || P c) = true) (h2 : ∀ c ∈ L.filter isCode, P c = true) : L.all P = true := by
  refine List.all_eq_true.mpr fun c hc => ?_
  have h := List.all_eq_true.mp h1 c hc
  rcases Bool.eq_false_or_eq_true (isCode c) with hi | hi
  · exact h2 c (List.mem_filter.mpr ⟨hc, hi⟩)
  · simpa [hi] using h
set_option maxRecDepth 65536 in
theorem w_c0 : (Jvm.Cond.code x code maxLocals ret).before args0 about1 = true := code_word (m := ⟨1, 1⟩) (meth := k1m1) (c := k1c1) (by decide +kernel) rfl rfl rfl (by decide +kernel)
set_option maxRecDepth 65536 in
theorem w_c1 : (Jvm.Cond.code ({ cls := "com/example/tessera/tessera/ByteSource", name := "<init>", desc := "([B)V" } : Jvm.MethodName) prog_15_method_1_code (2 : Nat) (Option.none : Option Jvm.ClassFile.FieldType)).before args0 about1 = true := code_word (m := ⟨2, 0⟩) (meth := k2m0) (c := k2c0) (by decide +kernel) rfl rfl rfl (by decide +kernel)
set_option maxRecDepth 65536 in
theorem w_c2 : (Jvm.Cond.code ({ cls := "java/lang/Object", name := "<init>", desc := "()V" } : Jvm.MethodName) object_method_1_code (1 : Nat) (Option.none : Option Jvm.ClassFile.FieldType)).before args0 about1 = true := code_word (m := ⟨0, 0⟩) (meth := k0m0) (c := k0c0) (by decide +kernel) rfl rfl rfl (by decide +kernel)
set_option maxRecDepth 65536 in
theorem w_c3 : (Jvm.Cond.code ({ cls := "com/example/tessera/tessera/ByteSource", name := "markRead", desc := "(JJ)V" } : Jvm.MethodName) prog_15_method_11_code (5 : Nat) (Option.none : Option Jvm.ClassFile.FieldType)).before args0 about1 = true := code_word (m := ⟨2, 1⟩) (meth := k2m1) (c := k2c1) (by decide +kernel) rfl rfl rfl (by decide +kernel)
set_option maxRecDepth 65536 in
theorem w_c4 : (Jvm.Cond.code ({ cls := "com/example/tessera/tessera/ByteSource", name := "requireTarget", desc := "(IJ)V" } : Jvm.MethodName) prog_15_method_15_code (4 : Nat) (Option.none : Option Jvm.ClassFile.FieldType)).before args0 about1 = true := code_word (m := ⟨2, 3⟩) (meth := k2m3) (c := k2c3) (by decide +kernel) rfl rfl rfl (by decide +kernel)
set_option maxRecDepth 65536 in
theorem w_c5 : (Jvm.Cond.code ({ cls := "com/example/tessera/tessera/ByteSource", name := "markSkippedData", desc := "(J)V" } : Jvm.MethodName) prog_15_method_12_code (3 : Nat) (Option.none : Option Jvm.ClassFile.FieldType)).before args0 about1 = true := code_word (m := ⟨2, 2⟩) (meth := k2m2) (c := k2c2) (by decide +kernel) rfl rfl rfl (by decide +kernel)
def codes1 : List Jvm.Cond := [Jvm.Cond.code x code maxLocals ret, Jvm.Cond.code ({ cls := "com/example/tessera/tessera/ByteSource", name := "<init>", desc := "([B)V" } : Jvm.MethodName) prog_15_method_1_code (2 : Nat) (Option.none : Option Jvm.ClassFile.FieldType), Jvm.Cond.code ({ cls := "java/lang/Object", name := "<init>", desc := "()V" } : Jvm.MethodName) object_method_1_code (1 : Nat) (Option.none : Option Jvm.ClassFile.FieldType), Jvm.Cond.code ({ cls := "com/example/tessera/tessera/ByteSource", name := "markRead", desc := "(JJ)V" } : Jvm.MethodName) prog_15_method_11_code (5 : Nat) (Option.none : Option Jvm.ClassFile.FieldType), Jvm.Cond.code ({ cls := "com/example/tessera/tessera/ByteSource", name := "requireTarget", desc := "(IJ)V" } : Jvm.MethodName) prog_15_method_15_code (4 : Nat) (Option.none : Option Jvm.ClassFile.FieldType), Jvm.Cond.code ({ cls := "com/example/tessera/tessera/ByteSource", name := "markSkippedData", desc := "(J)V" } : Jvm.MethodName) prog_15_method_12_code (3 : Nat) (Option.none : Option Jvm.ClassFile.FieldType)]
set_option maxRecDepth 65536 in
theorem codes_eq : words1.filter isCode = codes1 := rfl
theorem w_codes : ∀ c ∈ words1.filter isCode, c.before args0 about1 = true := by
  rw [codes_eq]
  intro c hc
  simp only [codes1, List.mem_cons, List.not_mem_nil, or_false] at hc
  rcases hc with rfl | rfl | rfl | rfl | rfl | rfl
  · exact w_c0
  · exact w_c1
  · exact w_c2
  · exact w_c3
  · exact w_c4
  · exact w_c5
set_option maxRecDepth 65536 in
theorem w_t1 : (words1.take 24).all (fun c => isCode c || c.before args0 about1) = true := by decide +kernel
set_option maxRecDepth 65536 in
theorem w_t2 : (words1.drop 24).all (fun c => isCode c || c.before args0 about1) = true := by decide +kernel
theorem w_tables : (allAtoms (Jvm.Cond.code x code maxLocals ret :: tables_1)).before args0 about1 = true := by
  rw [allAtoms_all]
  show words1.all (fun c => c.before args0 about1) = true
  refine all_split ?_ w_codes
  rw [← List.take_append_drop 24 words1, List.all_append, w_t1, w_t2]
  rfl
set_option maxRecDepth 65536 in
theorem w_case : (Jvm.Cond.and given_1 narrow_1).before args0 about1 = true := by decide +kernel
theorem w_applies : (headSpec (Jvm.Cond.code x code maxLocals ret :: tables_1) room_1).applies x e0.platform about1 = true :=
  (Spec.applies_iff w_frames).mpr ⟨w_running, w_runnable, w_alone, w_named, w_hears, w_ripe, w_room, w_tables⟩
theorem atStart : AtStart classFile x code maxLocals ret World_1 tables_1 room_1 Calls_1 rest_1 Pre_1 launch0 p0 e0 about1 theMethod args0 below0 :=
  ⟨lists_1, trivial, launch0.admits_env _ _ _, launch0.least_env, fairChoices_fair.cas, fairChoices_fair.clock, w_frames, w_args, w_heap, w_applies, trivial, trivial, w_case⟩
end start1
theorem witness_1 : WitnessClaimed_1 := ⟨start1.p0, start1.e0, start1.about1, start1.theMethod, start1.args0, start1.below0, start1.atStart⟩
end Jvm.Pilot.@@N@@
