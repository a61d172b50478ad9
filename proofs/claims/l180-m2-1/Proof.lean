import JvmDerived
import JvmDerived.Pilot.@@N@@Statement
import JvmDerived.Pilot.@@N@@Code
set_option linter.unusedVariables false
set_option linter.unusedSimpArgs false
namespace Jvm.Pilot.@@N@@
open Jvm Jvm.ClassFile Sem Op Lib Jvm.Free Jvm.Stand Jvm.LawKit Jvm.RoadKit Bundle Jvm.Pilot.@@N@@.Jvm.D
def own_Go (tb : Tables) (e : Env) (below : List Frame) (P : State → Outcome → Prop) (T : State) (g : JFrame) : Prop := ∃ t o, Steps tb e below (T.setTop g) t ∧ P t o
theorem own_go {tb : Tables} {e : Env} {below : List Frame} {P : State → Outcome → Prop} {T T' : State} {g g' : JFrame} (k : ∀ target, Steps tb e below (T'.setTop g') target → Steps tb e below (T.setTop g) target) (h : own_Go tb e below P T' g') : own_Go tb e below P T g := by
  obtain ⟨t, o, a, b⟩ := h
  exact ⟨t, o, k t a, b⟩
theorem own_cast {P Q : Prop} (h : P = Q) (p : P) : Q := h ▸ p
def own_upd (f : Nat → Value) (k : Nat) (v : Value) : Nat → Value := fun i => if i = k then v else f i
/-- an array of length z at a, its element i being f i -/
def own_AV (Z : State) (h : Heap) (a : Addr) (ty : FieldType) (z : Int32) (f : Nat → Value) : Prop := ¬ z < 0 ∧ ∃ c : Cell, Arr Z h a c ty ∧ c.slots.size = z.toNatClampNeg ∧ ∀ i, i < c.slots.size → c.slots[i]? = some (f i)
section
variable {Z : State} {h h' : Heap} {a b : Addr} {ty : FieldType} {z j : Int32} {f : Nat → Value} {v w : Value} {sl k : Nat} {ws : List Addr} {cA : ClassId}
theorem own_AV.lt (F : own_AV Z h a ty z f) : a < h.size := by obtain ⟨_, c, A, -⟩ := F; exact A.lt
theorem own_AV.ext (F : own_AV Z h a ty z f) (E : Ext h h') : own_AV Z h' a ty z f := by obtain ⟨q, c, A, r⟩ := F; exact ⟨q, c, A.ext E, r⟩
theorem own_AV.other (F : own_AV Z h b ty z f) (W : Wr h h' a sl v) (q : b ≠ a) : own_AV Z h' b ty z f := by obtain ⟨q1, c, A, r⟩ := F; exact ⟨q1, c, A.other W q, r⟩
theorem own_AV.keep (F : own_AV Z h a ty z f) (K : Keep h h' ws) (q : a ∉ ws) : own_AV Z h' a ty z f := by obtain ⟨q1, c, A, r⟩ := F; exact ⟨q1, c, ⟨K.2.1 a c A.1 q, A.2⟩, r⟩
theorem own_AV.new (A : Arr Z h a (newA cA ty z) ty) (q : ¬ z < 0) : own_AV Z h a ty z (fun _ => defaultValue ty) :=
  ⟨q, _, A, sz_new _ _ _, fun i hi => by
    rw [sz_new] at hi
    simp [newA, hi]⟩
theorem own_AV.set (F : own_AV Z h a ty z f) (W : Wr h h' a j.toNatClampNeg v) (hk : j.toNatClampNeg = k) : own_AV Z h' a ty z (own_upd f k v) := by
  obtain ⟨q, c, A, s, t⟩ := F
  subst hk
  refine ⟨q, _, A.same W, by rw [sz_set]; exact s, fun i hi => ?_⟩
  rw [sz_set] at hi
  by_cases e : i = j.toNatClampNeg
  · subst e; simp [own_upd, Cell.setSlot, hi]
  · simp only [own_upd, if_neg e, Cell.setSlot]
    rw [Array.getElem?_setIfInBounds_ne (Ne.symm e)]; exact t i hi
theorem own_at {c : Cell} (t : ∀ i, i < c.slots.size → c.slots[i]? = some (f i)) (s : c.slots.size = z.toNatClampNeg) (hin : ¬ (j < 0 ∨ c.slots.size ≤ j.toNatClampNeg)) (hk : j.toNatClampNeg = k) (hv : f k = v) : c.slots[j.toNatClampNeg]? = some v := by
  rw [t _ (Nat.lt_of_not_le fun q => hin (Or.inr q)), hk, hv]
theorem own_sta_keep {C n d : String} (F : Sta Z h C n d w) (K : Keep h h' ws) (q : ∀ x ∈ ws, ∀ c : Cell, h[x]? = some c → c.vm.isStatics = false) : Sta Z h' C n d w := by
  obtain ⟨cf, i, k, f, st, cell, h1, h2, h3, h4, h5, h6, h7⟩ := F
  exact ⟨cf, i, k, f, st, cell, h1, h2, h3, h4, K.2.1 st cell h5 (fun m => by rw [q st m cell h5] at h6; cases h6), h6, h7⟩
theorem own_exa_plain {C : String} (F : Exa Z h a C) : ∀ c : Cell, h[a]? = some c → c.vm.isStatics = false := fun c hc => by
  obtain ⟨c1, k, h1, -, -, h4, -⟩ := F; cases h1.symm.trans hc; exact h4
theorem own_AV.plain (F : own_AV Z h a ty z f) : ∀ c : Cell, h[a]? = some c → c.vm.isStatics = false := fun c hc => by
  obtain ⟨_, c1, A, -⟩ := F; cases A.1.symm.trans hc; exact A.plain
end
theorem own_narb {x : Int32} (h : x = 0 ∨ x = 1) : nar .boolean x = x := by rcases h with rfl | rfl <;> rfl
theorem own_exa_ref {args : Array Value} {s : State} {t : Term} {C : String} (hx : (Jvm.Cond.exactly t C).value args s none s [] = some true) : ∃ a, t.eval args s none [] s = some (.ref a) ∧ Exa s s.heap a C := by
  obtain ⟨a', c', cell, k, e1, -⟩ := Cond.exactly_spec (Cond.before_iff.mpr hx)
  exact ⟨a', e1, Exa.start e1 hx⟩
theorem own_eq_int {args : Array Value} {s : State} {t : Term} {k : Int32} (h : (Jvm.Cond.eq t (Jvm.Term.int k)).value args s none s [] = some true) : t.eval args s none [] s = some (.int k) := by
  cases hv : t.eval args s none [] s with
  | none => simp [Cond.value, hv] at h
  | some v => cases v <;> simp [Cond.value, hv, Term.eval] at h <;> simp [h]
theorem own_fld_int {args : Array Value} {s : State} {t : Term} {C n d : String} {a : Addr} {k : Int32} (ev : t.eval args s none [] s = some (.ref a)) (h : (Jvm.Cond.eq (Jvm.Term.field t C n d) (Jvm.Term.int k)).value args s none s [] = some true) : Fld s s.heap a C n d (.int k) :=
  Fld.start ((fld_at ev).symm.trans (own_eq_int h))
theorem own_nar_c (x : Int32) : nar .char (x.toUInt32.toUInt16.toUInt32.toInt32) = x.toUInt32.toUInt16.toUInt32.toInt32 := Value.int.inj (Jvm.Free.XT.narrow_c x)
theorem own_nar_b (x : Int32) : nar .byte (x.toInt8.toInt32) = x.toInt8.toInt32 := Value.int.inj (Jvm.Free.XT.narrow_b x)
theorem own_NSroot {Z : State} {a0 : Array Value} {O K : String} {n : Nat} (w : (Jvm.Cond.noSuperclass O).before a0 Z = true) (wk : (Jvm.Cond.instantiable K n).before a0 Z = true) (hn : O ≠ K) : NS Z O K := by
  obtain ⟨c, k, h1, h2, h3, -, -⟩ := Cond.noSuperclass_spec w
  obtain ⟨t, kt, g1, -⟩ := Cond.instantiable_spec wk
  have ne := ids_ne h1 g1 hn
  refine ⟨c, t, h1, g1, fun fuel => ?_⟩
  cases fuel with
  | zero => rfl
  | succ f => simp [Vm.isSubclassAux, ne, h2, h3]
theorem own_NSno {Z : State} {a0 : Array Value} {C S K : String} {m : Nat} (w : (Jvm.Cond.superclass C S).before a0 Z = true) (wk : (Jvm.Cond.instantiable K m).before a0 Z = true) (n : NS Z C K) (hn : C ≠ K) : ∃ c t, Z.vm.findClass C = some c ∧ Z.vm.findClass K = some t ∧ Z.vm.assignable c t = false := by
  obtain ⟨c, t, h0, g0, n3⟩ := n
  obtain ⟨p, k, kp, h1, h2, h3, h4, h5, -, h7⟩ := Cond.superclass_spec h0 w
  obtain ⟨t', k', g1, g2, g5, g7, -⟩ := Cond.instantiable_spec wk
  cases g0.symm.trans g1
  have g8 : k'.isInterface = false := by
    cases hi : k'.isInterface <;> simp [hi] at g7 ⊢
  have ne := ids_ne h0 g0 hn
  refine ⟨c, t, h0, g0, ?_⟩
  show Z.vm.assignableAux (255 + 1) c t = false
  simp [Vm.assignableAux, ne, h2, g2, h5, g5, g8, Vm.isSubclass, n3]
theorem own_monoW {s t : State} {o : Outcome} {L : List Loc} {k n k' n' : Nat} (h : ReturnedEndW s o t L k n) (hk : k ≤ k') (hn : n ≤ n') : ReturnedEndW s o t L k' n' := ⟨h.1, h.2.1, h.2.2.1, h.2.2.2.mono hk hn⟩
theorem own_ldcSL {p : Program} {l : Launch} {e : Env} {R : Room} {s : State} {vm0 : Vm} {m : MethodId} {args : Array Value} {below : List Frame} {meth : Method} {c : Code} {T : State} {locs : List Loc} {cells slots : Nat} {Z : State} {a0 : Array Value} {h : Heap}
    (X : Stand p l e R (s.setVm vm0) m args below meth c T locs cells slots) (hx : p.tables.exec = Jvm.exec) (hZ : Z.Warmed39 vm0) {own text : String} {index : Nat} (hown : vm0.findClass own = some m.cls) (w : (Jvm.Cond.stringLink own index text).before a0 Z = true) (wS : ∀ a ∈ Bundle.stringAtoms, a.before a0 Z = true)
    (eT : T.heap = h) {k0 : Nat} (hS : s.Since vm0 k0) (hk : k0 ≤ h.size) {g : JFrame} (hg : g.method = m) (hd : decode c.code g.pc = .ok (.ldc index, 2)) {n : Nat} (hn : 4 * text.toList.length ≤ n) (hbig : n ≤ 536870912) (hc : cells + 2 ≤ R.cells) (hl : slots + (n + 4) ≤ R.slots) :
    ∃ (a : Addr) (T' : State) (h' : Heap) (k1 : Nat), Stand p l e R (s.setVm T'.vm) m args below meth c T' locs (cells + 2) (slots + (n + 4)) ∧ T'.heap = h' ∧ Ext h h' ∧ s.Since T'.vm k1 ∧ k1 ≤ h'.size ∧ Z.Warmed39 (s.setVm T'.vm).vm ∧ (s.setVm T'.vm).vm.findClass own = some m.cls ∧ Lit (s.setVm T'.vm) own index a ∧ (s.setVm vm0).Warmed39 T'.vm ∧
      ∀ target, Steps p.tables e below (T'.setTop { g with pc := g.pc + 2, stack := .ref a :: g.stack }) target → Steps p.tables e below (T.setTop g) target := by
  have wS' : ∀ d ∈ Bundle.stringAtoms, d.before args (s.setVm vm0) = true := fun d hd => by
    have q := wS d hd
    simp only [Bundle.stringAtoms, List.mem_cons, List.not_mem_nil, or_false] at hd
    rcases hd with rfl | rfl | rfl | rfl | rfl | rfl | rfl
    · exact mv (s := s.setVm vm0) hZ q
    · exact mv (s := s.setVm vm0) hZ q
    · exact mvA (s := s.setVm vm0) hZ q
    · exact mv (s := s.setVm vm0) hZ q
    · exact mv (s := s.setVm vm0) hZ q
    · exact mv (s := s.setVm vm0) hZ q
    · exact mv (s := s.setVm vm0) hZ q
  obtain ⟨a, T', X', hS', ⟨kk, hkk, hrr⟩, hb, -, st⟩ := X.ldcStringCold hx (own := own) hown (mvS hZ w) wS' hg hd hn hbig hc hl
  subst eT
  have hf : T'.vm.findClass own = some m.cls := by rw [hS'.1.alike.findClass]; exact hown
  exact ⟨a, T', _, _, X', rfl, ext_of hb, hS.trans hS' (Nat.le_trans hk (ext_of hb).1), Nat.le_refl _, State.Warmed39.trans (t := s.setVm vm0) hZ hS'.1, hf, by simp [Lit, State.resolvedAt?, hf, hkk, hrr], hS'.1, st⟩
theorem own_selfsel {Z s : State} {a0 args : Array Value} {y : MethodName} {n : Nat} (hZ : Z.Warmed39 s.vm) (wi : (Jvm.Cond.instantiable y.cls n).before a0 Z = true) (wm : (Jvm.Cond.instanceMethod y).before a0 Z = true) (wp : (Jvm.Cond.privateMethod y).before a0 Z = true) (hy : y.cls ≠ "java/lang/invoke/MethodHandle" ∧ y.cls ≠ "java/lang/invoke/VarHandle") : (Jvm.Cond.selects y.cls y y).before args s = true := by
  obtain ⟨c, k, h1, h2, -, h4, -⟩ := Cond.instantiable_spec (mvT (args := args) hZ wi)
  have g8 : k.isInterface = false := by
    cases hi : k.isInterface <;> simp [hi] at h4 ⊢
  exact selects_self_of_private h1 h2 g8 (Cond.privateMethod_at (mvP hZ wp (args := #[]))) (mvT hZ wm) hy
theorem own_addeq {k a b m n : Nat} (h : k = a + b) (h1 : a = m) (h2 : m + b = n) : k = n := by subst h1; exact h.trans h2
theorem own_lt {a b : Nat} (h : a < b) : a < b := h
theorem own_ne {a b : Nat} (h : a < b ∨ b < a) : a ≠ b := by omega

theorem own_pn0 : plainName "com/example/bytewright/bytewright/codec/ByteArrays" = true := by first | (simp [plainName, overriddenIn]; done) | decide +kernel
theorem own_pn1 : plainName "com/example/bytewright/bytewright/codec/ByteArraysOfLengthPinLaw" = true := by first | (simp [plainName, overriddenIn]; done) | decide +kernel
theorem own_pd0 : parseMethodDescriptor "(J)[B" = some ⟨[.long], some (.array .byte)⟩ := by decide +kernel
theorem own_len_nn {q : Int64} (hq : 0 ≤ q.toInt ∧ q.toInt ≤ 65535) : ¬ q.toInt32 < 0 := by
  have a := c_l2i q; have b := rng32 q.toInt32
  rw [Int32.lt_iff_toInt_lt]; show ¬ q.toInt32.toInt < 0; omega
theorem own_len_le {q : Int64} (hq : 0 ≤ q.toInt ∧ q.toInt ≤ 65535) : q.toInt32.toNatClampNeg ≤ 65535 := by
  have a := c_l2i q; have b := rng32 q.toInt32
  have c := nat_of (own_len_nn hq)
  omega
theorem own_rt (v : Int32) : v.toInt64.toInt32 = v := by simp
theorem own_d1_0 : decode prog_9_method_2_code 0 = .ok (.lload_n 0, 1) := by decide +kernel
theorem own_d1_1 : decode prog_9_method_2_code 1 = .ok (.ldc2_w 11, 3) := by decide +kernel
theorem own_d1_4 : decode prog_9_method_2_code 4 = .ok (.lcmp, 1) := by decide +kernel
theorem own_d1_5 : decode prog_9_method_2_code 5 = .ok (.ifCond .le 13, 3) := by decide +kernel
theorem own_d1_18 : decode prog_9_method_2_code 18 = .ok (.lload_n 0, 1) := by decide +kernel
theorem own_d1_19 : decode prog_9_method_2_code 19 = .ok (.l2i, 1) := by decide +kernel
theorem own_d1_20 : decode prog_9_method_2_code 20 = .ok (.newarray .byte, 2) := by decide +kernel
theorem own_d1_22 : decode prog_9_method_2_code 22 = .ok (.areturn, 1) := by decide +kernel
theorem own_ef_own_rm1 (m : MethodId) (x0 : Int64) : entryFrame m #[(.long x0)] 2 = mkF m 0 #[.val (.long x0), .second] [] := by first | (simp [entryFrame, mkF, argsToLocals, Value.category]; done) | rfl
set_option maxRecDepth 65536 in
set_option maxHeartbeats 4000000 in
theorem own_t1_0 (q_1 : Int64) (hq : 0 ≤ q_1.toInt ∧ q_1.toInt ≤ 65535) : ¬ ((2147483639 : Int64) < q_1) := by
  rw [Int64.lt_iff_toInt_lt]; have e : (2147483639 : Int64).toInt = 2147483639 := by decide
  omega
def own_Q1 (Z : State) (q_1 : Int64) (h0 : Heap) (n0 : Nat) (v : Option Value) (h : Heap) (L : List Loc) : Prop := ∃ (x_0 : Addr), v = some (.ref x_0) ∧ Fr n0 L ∧ Keep h0 h [] ∧ own_AV Z h x_0 .byte (q_1.toInt32) (fun _ => (.int (0 : Int32))) ∧ h0.size ≤ x_0
set_option maxRecDepth 65536 in
set_option maxHeartbeats 40000000 in
theorem own_rm1 (l : Launch) (Z : State) (a0 : Array Value) (hw : ∀ d ∈ tables_1, d.before a0 Z = true) (ws : List Jvm.Cond) (q_1 : Int64) (h0 : Heap) (n0 : Nat) (Z0 : n0 ≤ h0.size) (hq : 0 ≤ q_1.toInt ∧ q_1.toInt ≤ 65535) :
    MetFree l (⟨"com/example/bytewright/bytewright/codec/ByteArrays", "ofLength", "(J)[B"⟩ : MethodName) (head1 (Jvm.Cond.code (⟨"com/example/bytewright/bytewright/codec/ByteArrays", "ofLength", "(J)[B"⟩ : MethodName) prog_9_method_2_code 2 (some (.array .byte)) :: ws) ({ frames := 0, cells := 1, slots := 65535, locals := 0 } : Room)) (fun a U => a = #[(.long q_1)] ∧ Z.Warmed39 U.vm ∧ U.heap = h0) (fun _ _ _ _ _ => True) (fun _ U o U' => ∃ v L, o = .returned v ∧ own_Q1 Z q_1 h0 n0 v U'.heap L ∧ FrameEnd U o U' L ({ frames := 0, cells := 1, slots := 65535, locals := 0 } : Room).cells ({ frames := 0, cells := 1, slots := 65535, locals := 0 } : Room).slots) := by
  refine MetFree.of_bodySF (plainFor_of_name own_pn0) hisR ?_
  intro p e s m args below meth c s₁ Bd hml0 hP hK
  obtain ⟨rfl, hZ, hh⟩ := hP
  have hx := Bd.exec
  have hby := Bd.bytes
  have hml : c.maxLocals = 2 := hml0
  have hown : s.vm.findClass "com/example/bytewright/bytewright/codec/ByteArrays" = some m.cls := findClass_of_methodNamed Bd.named
  have hnm := (name_of_methodNamed Bd.named Bd.method).1
  have X0 : Stand p l e ({ frames := 0, cells := 1, slots := 65535, locals := 0 } : Room) s m #[(.long q_1)] below meth c s₁ [] 0 0 := Stand.of_body Bd
  have e0 : s₁.heap = h0 := by rw [← hh, Bd.state]; rfl
  have N0 := Fr.nil n0
  have z0 : n0 ≤ h0.size := Z0
  have K0 : Keep h0 h0 [] := Keep.refl h0 _
  show own_Go p.tables e below (fun t o => t.status = .running ∧ Ended t below o ∧ ∃ v L, o = .returned v ∧ own_Q1 Z q_1 h0 n0 v t.heap L ∧ FrameEnd s o t L ({ frames := 0, cells := 1, slots := 65535, locals := 0 } : Room).cells ({ frames := 0, cells := 1, slots := 65535, locals := 0 } : Room).slots) s₁ (entryFrame m #[(.long q_1)] 2)
  rw [own_ef_own_rm1 m q_1]
  show own_Go _ _ _ _ s₁ (mkF m 0 #[.val (.long q_1), .second] [])
  refine own_go (fun _ k => XS.lloadN X0.here hx rfl (hb hby own_d1_0) rfl k) ?_
  show own_Go _ _ _ _ s₁ (mkF m 1 #[.val (.long q_1), .second] [(.long q_1)])
  refine own_go (fun _ k => X0.ldc2Long hx hown (mvT hZ (hw _ (List.mem_of_getElem? (i := 5) rfl))) (g := (mkF m 1 #[.val (.long q_1), .second] [(.long q_1)])) rfl (hb hby own_d1_1) _ k) ?_
  show own_Go _ _ _ _ s₁ (mkF m 4 #[.val (.long q_1), .second] [(.long (2147483639 : Int64)), (.long q_1)])
  refine own_go (fun _ k => XS.lcmp X0.here hx rfl (hb hby own_d1_4) rfl k) ?_
  show own_Go _ _ _ _ s₁ (mkF m 5 #[.val (.long q_1), .second] [(.int (lcmpW q_1 (2147483639 : Int64)))])
  have hc1 : ¬ ((2147483639 : Int64) < q_1) := own_t1_0 q_1 hq
  refine own_go (fun _ k => XS.ifYes X0.here hx rfl (pc0 := 5) (pc' := 18) rfl (hb hby own_d1_5) rfl (Jvm.Free.XT.ll_le_t hc1) (by decide) (by decide) k) ?_
  show own_Go _ _ _ _ s₁ (mkF m 18 #[.val (.long q_1), .second] [])
  refine own_go (fun _ k => XS.lloadN X0.here hx rfl (hb hby own_d1_18) rfl k) ?_
  show own_Go _ _ _ _ s₁ (mkF m 19 #[.val (.long q_1), .second] [(.long q_1)])
  refine own_go (fun _ k => XS.l2i X0.here hx rfl (hb hby own_d1_19) rfl k) ?_
  show own_Go _ _ _ _ s₁ (mkF m 20 #[.val (.long q_1), .second] [(.int (q_1.toInt32))])
  obtain ⟨T2, h2, k2, X2, e2, E2, A2, st2⟩ := newP X0 hx hZ (hw _ (List.mem_of_getElem? (i := 6) rfl)) e0 (g := (mkF m 20 #[.val (.long q_1), .second] [(.int (q_1.toInt32))])) rfl (hb hby own_d1_20) rfl (own_len_nn hq) (cap := 65535) (own_len_le hq) (by decide) (by decide) (by decide)
  obtain ⟨b2, g2⟩ : ∃ z, z = h0.size := ⟨_, rfl⟩
  rw [← g2] at A2 st2
  have z3 := E2.1
  have lt_b2 := own_lt A2.lt
  have K2 : Keep h0 h2 [] := K0.ext E2
  have V_b2 : own_AV Z h2 b2 .byte (q_1.toInt32) (fun _ => (.int (0 : Int32))) := own_AV.new A2 (own_len_nn hq)
  refine own_go (fun _ k => st2 _ k) ?_
  show own_Go _ _ _ _ T2 (mkF m 22 #[.val (.long q_1), .second] [(.ref b2)])
  obtain ⟨fs, hr, hrun, hended, hW, hsame⟩ := X2.leave (v := some (.ref b2)) (fun h => by rw [Bd.returns] at h; cases h)
  refine ⟨_, _, retOut X2 hx Bd.returns rfl (Or.inr (Or.inr (Or.inr (Or.inr ⟨rfl, rfl, rfl⟩)))) (hb hby own_d1_22) hr, hrun, hended, _, _, rfl, ?_, ⟨_, rfl⟩, hW, hsame.mono (by decide) (by decide)⟩
  show own_Q1 Z q_1 h0 n0 _ T2.heap _
  rw [e2]
  exact ⟨b2, rfl, N0, K2, V_b2, (by omega)⟩
theorem own_ef_own_rm0 (m : MethodId) (x0 : Int64) (x1 : Int32) (x2 : Int32) : entryFrame m #[(.long x0), (.int x1), (.int x2)] maxLocals = mkF m 0 #[.val (.long x0), .second, .val (.int x1), .val (.int x2), .unset, .unset, .unset, .unset, .unset] [] := by first | (simp [entryFrame, mkF, argsToLocals, Value.category, maxLocals]; done) | rfl
set_option maxRecDepth 65536 in
set_option maxHeartbeats 4000000 in
theorem own_t0_0 (q_1 : Int64) (v1 : Int32) (hdv1 : ((q_1 &&& (65535 : Int64)).toInt32) = v1) : 0 ≤ v1.toInt ∧ v1.toInt ≤ 65535 := by
  have a := c_maskL q_1 65535 16 (by decide) (by decide)
  have b := c_l2i (q_1 &&& 65535)
  have c := rng32 (q_1 &&& 65535).toInt32
  subst_vars
  omega
set_option maxRecDepth 65536 in
set_option maxHeartbeats 4000000 in
theorem own_t0_1 (q_1 : Int64) (v1 : Int32) (hdv1 : ((q_1 &&& (65535 : Int64)).toInt32) = v1) (hv_r : 0 ≤ v1.toInt ∧ v1.toInt ≤ 65535) : 0 ≤ (v1.toInt64).toInt ∧ (v1.toInt64).toInt ≤ 65535 := by
  rw [c_i2l]; exact hv_r
set_option maxRecDepth 65536 in
set_option maxHeartbeats 4000000 in
theorem own_t0_2 (q_1 : Int64) (v1 : Int32) (hdv1 : ((q_1 &&& (65535 : Int64)).toInt32) = v1) (hv_r : 0 ≤ v1.toInt ∧ v1.toInt ≤ 65535) : 0 ≤ (v1.toInt64).toInt ∧ (v1.toInt64).toInt ≤ 65535 := by
  rw [c_i2l]; exact hv_r
set_option maxRecDepth 65536 in
set_option maxHeartbeats 4000000 in
theorem own_t0_3 (q_1 : Int64) (v1 : Int32) (hdv1 : ((q_1 &&& (65535 : Int64)).toInt32) = v1) (hv_r : 0 ≤ v1.toInt ∧ v1.toInt ≤ 65535) : ((v1.toInt64).toInt32) = v1 := by
  exact own_rt _
set_option maxRecDepth 65536 in
set_option maxHeartbeats 4000000 in
theorem own_t0_4 (q_1 : Int64) (v1 : Int32) (hdv1 : ((q_1 &&& (65535 : Int64)).toInt32) = v1) (hv_r : 0 ≤ v1.toInt ∧ v1.toInt ≤ 65535) (hc16 : ((v1.toInt64).toInt32) = v1) (hc19 : ¬ (v1 = 0)) : v1 ≠ 0 := by
  assumption
set_option maxRecDepth 65536 in
set_option maxHeartbeats 4000000 in
theorem own_t0_5 (q_1 : Int64) (p_2 : Int32) (v1 : Int32) (v22 : Int32) (hdv1 : ((q_1 &&& (65535 : Int64)).toInt32) = v1) (hv_r : 0 ≤ v1.toInt ∧ v1.toInt ≤ 65535) (hc16 : ((v1.toInt64).toInt32) = v1) (hc19 : ¬ (v1 = 0)) (hdv22 : ((p_2 &&& (2147483647 : Int32)) % v1) = v22) : 0 ≤ v22.toInt ∧ v22.toInt < v1.toInt := by
  have e0 : (0 : Int32).toInt = 0 := by decide
  have a := c_mask p_2 2147483647 31 (by decide) (by decide)
  have b := c_iremV (p_2 &&& 2147483647) v1
  have h0 : ¬ v1.toInt = 0 := fun h => by first | exact (by assumption : ¬ (v1 = 0)) (Int32.toInt_inj.mp h) | exact absurd (Int32.toInt_inj.mp h) (by assumption)
  subst_vars
  omega
set_option maxRecDepth 65536 in
set_option maxHeartbeats 4000000 in
theorem own_t0_6 (q_1 : Int64) (p_2 : Int32) (v1 : Int32) (v22 : Int32) (hdv1 : ((q_1 &&& (65535 : Int64)).toInt32) = v1) (hv_r : 0 ≤ v1.toInt ∧ v1.toInt ≤ 65535) (hc16 : ((v1.toInt64).toInt32) = v1) (hc19 : ¬ (v1 = 0)) (hdv22 : ((p_2 &&& (2147483647 : Int32)) % v1) = v22) (hk_r : 0 ≤ v22.toInt ∧ v22.toInt < v1.toInt) : ¬ (0 : Int32) < 0 ∧ (0 : Int32) < ((v1.toInt64).toInt32) := by
  rw [own_rt]; simp only [Int32.lt_iff_toInt_lt]; have e0 : (0 : Int32).toInt = 0 := by decide
  have h0 : ¬ v1.toInt = 0 := fun h => by exact absurd (Int32.toInt_inj.mp h) (by assumption)
  omega
set_option maxRecDepth 65536 in
set_option maxHeartbeats 4000000 in
theorem own_t0_7 (q_1 : Int64) (p_2 : Int32) (v1 : Int32) (v22 : Int32) (hdv1 : ((q_1 &&& (65535 : Int64)).toInt32) = v1) (hv_r : 0 ≤ v1.toInt ∧ v1.toInt ≤ 65535) (hc16 : ((v1.toInt64).toInt32) = v1) (hc19 : ¬ (v1 = 0)) (hdv22 : ((p_2 &&& (2147483647 : Int32)) % v1) = v22) (hk_r : 0 ≤ v22.toInt ∧ v22.toInt < v1.toInt) : ¬ (v1 - (1 : Int32)) < 0 ∧ (v1 - (1 : Int32)) < ((v1.toInt64).toInt32) := by
  rw [own_rt]; simp only [Int32.lt_iff_toInt_lt]; have e0 : (0 : Int32).toInt = 0 := by decide
  have h0 : ¬ v1.toInt = 0 := fun h => by exact absurd (Int32.toInt_inj.mp h) (by assumption)
  have e1 : (1 : Int32).toInt = 1 := by decide
  have s := c_isub v1 1
  have r := rng32 (v1 - 1)
  omega
set_option maxRecDepth 65536 in
set_option maxHeartbeats 4000000 in
theorem own_t0_8 (q_1 : Int64) (p_2 : Int32) (v1 : Int32) (v22 : Int32) (hdv1 : ((q_1 &&& (65535 : Int64)).toInt32) = v1) (hv_r : 0 ≤ v1.toInt ∧ v1.toInt ≤ 65535) (hc16 : ((v1.toInt64).toInt32) = v1) (hc19 : ¬ (v1 = 0)) (hdv22 : ((p_2 &&& (2147483647 : Int32)) % v1) = v22) (hk_r : 0 ≤ v22.toInt ∧ v22.toInt < v1.toInt) : ¬ v22 < 0 ∧ v22 < ((v1.toInt64).toInt32) := by
  rw [own_rt]; simp only [Int32.lt_iff_toInt_lt]; have e0 : (0 : Int32).toInt = 0 := by decide
  omega
set_option maxRecDepth 65536 in
set_option maxHeartbeats 4000000 in
theorem own_t0_9 (q_1 : Int64) (p_2 : Int32) (v1 : Int32) (v22 : Int32) (hdv1 : ((q_1 &&& (65535 : Int64)).toInt32) = v1) (hv_r : 0 ≤ v1.toInt ∧ v1.toInt ≤ 65535) (hc16 : ((v1.toInt64).toInt32) = v1) (hc19 : ¬ (v1 = 0)) (hdv22 : ((p_2 &&& (2147483647 : Int32)) % v1) = v22) (hk_r : 0 ≤ v22.toInt ∧ v22.toInt < v1.toInt) : ¬ v22 < 0 ∧ v22 < ((v1.toInt64).toInt32) := by
  rw [own_rt]; simp only [Int32.lt_iff_toInt_lt]; have e0 : (0 : Int32).toInt = 0 := by decide
  omega
set_option maxRecDepth 65536 in
set_option maxHeartbeats 4000000 in
theorem own_t0_10 (q_1 : Int64) (p_2 : Int32) (v1 : Int32) (v22 : Int32) (hdv1 : ((q_1 &&& (65535 : Int64)).toInt32) = v1) (hv_r : 0 ≤ v1.toInt ∧ v1.toInt ≤ 65535) (hc16 : ((v1.toInt64).toInt32) = v1) (hc19 : ¬ (v1 = 0)) (hdv22 : ((p_2 &&& (2147483647 : Int32)) % v1) = v22) (hk_r : 0 ≤ v22.toInt ∧ v22.toInt < v1.toInt) : ¬ v22 < 0 ∧ v22 < ((v1.toInt64).toInt32) := by
  rw [own_rt]; simp only [Int32.lt_iff_toInt_lt]; have e0 : (0 : Int32).toInt = 0 := by decide
  omega
set_option maxRecDepth 65536 in
set_option maxHeartbeats 4000000 in
theorem own_t0_11 (q_1 : Int64) (p_2 : Int32) (v1 : Int32) (v22 : Int32) (hdv1 : ((q_1 &&& (65535 : Int64)).toInt32) = v1) (hv_r : 0 ≤ v1.toInt ∧ v1.toInt ≤ 65535) (hc16 : ((v1.toInt64).toInt32) = v1) (hc19 : ¬ (v1 = 0)) (hdv22 : ((p_2 &&& (2147483647 : Int32)) % v1) = v22) (hk_r : 0 ≤ v22.toInt ∧ v22.toInt < v1.toInt) : ¬ v22 < 0 ∧ v22 < ((v1.toInt64).toInt32) := by
  rw [own_rt]; simp only [Int32.lt_iff_toInt_lt]; have e0 : (0 : Int32).toInt = 0 := by decide
  omega
set_option maxRecDepth 65536 in
set_option maxHeartbeats 4000000 in
theorem own_t0_12 (q_1 : Int64) (p_2 : Int32) (v1 : Int32) (v22 : Int32) (hdv1 : ((q_1 &&& (65535 : Int64)).toInt32) = v1) (hv_r : 0 ≤ v1.toInt ∧ v1.toInt ≤ 65535) (hc16 : ((v1.toInt64).toInt32) = v1) (hc19 : ¬ (v1 = 0)) (hdv22 : ((p_2 &&& (2147483647 : Int32)) % v1) = v22) (hk_r : 0 ≤ v22.toInt ∧ v22.toInt < v1.toInt) : ¬ v22 < 0 ∧ v22 < ((v1.toInt64).toInt32) := by
  rw [own_rt]; simp only [Int32.lt_iff_toInt_lt]; have e0 : (0 : Int32).toInt = 0 := by decide
  omega
set_option maxRecDepth 65536 in
set_option maxHeartbeats 4000000 in
theorem own_t0_13 (p_3 : Int32) (v31 : Int32) (hdv31 : ((p_3 ||| (1 : Int32)).toInt8.toInt32) = v31) : (nar .byte v31) = v31 := by
  subst_vars; exact own_nar_b _
def own_Q0 (Z : State) (q_1 : Int64) (p_2 : Int32) (p_3 : Int32) (h0 : Heap) (n0 : Nat) (v : Option Value) (h : Heap) (L : List Loc) : Prop := v = some (.int (1 : Int32)) ∧ Fr n0 L
set_option maxRecDepth 65536 in
set_option maxHeartbeats 40000000 in
theorem own_rm0 (l : Launch) (Z : State) (a0 : Array Value) (hw : ∀ d ∈ tables_1, d.before a0 Z = true) (ws : List Jvm.Cond) (q_1 : Int64) (p_2 : Int32) (p_3 : Int32) (h0 : Heap) (n0 : Nat) (Z0 : n0 ≤ h0.size) :
    MetFree l x (head1 (Jvm.Cond.code x code maxLocals ret :: ws) room_1) (fun a U => a = #[(.long q_1), (.int p_2), (.int p_3)] ∧ Z.Warmed39 U.vm ∧ U.heap = h0) (fun _ _ _ _ _ => True) (fun _ U o U' => ∃ v L, o = .returned v ∧ own_Q0 Z q_1 p_2 p_3 h0 n0 v U'.heap L ∧ FrameEnd U o U' L 2 131070) := by
  refine MetFree.of_bodySF (plainFor_of_name own_pn1) hisR ?_
  intro p e s m args below meth c s₁ Bd hml0 hP hK
  obtain ⟨rfl, hZ, hh⟩ := hP
  have hx := Bd.exec
  have hby := Bd.bytes
  have hml : c.maxLocals = 9 := hml0
  have hown : s.vm.findClass "com/example/bytewright/bytewright/codec/ByteArraysOfLengthPinLaw" = some m.cls := findClass_of_methodNamed Bd.named
  have hnm := (name_of_methodNamed Bd.named Bd.method).1
  have X0 : Stand p l e room_1 s m #[(.long q_1), (.int p_2), (.int p_3)] below meth c s₁ [] 0 0 := Stand.of_body Bd
  have e0 : s₁.heap = h0 := by rw [← hh, Bd.state]; rfl
  have N0 := Fr.nil n0
  have z0 : n0 ≤ h0.size := Z0
  show own_Go p.tables e below (fun t o => t.status = .running ∧ Ended t below o ∧ ∃ v L, o = .returned v ∧ own_Q0 Z q_1 p_2 p_3 h0 n0 v t.heap L ∧ FrameEnd s o t L 2 131070) s₁ (entryFrame m #[(.long q_1), (.int p_2), (.int p_3)] maxLocals)
  rw [own_ef_own_rm0 m q_1 p_2 p_3]
  show own_Go _ _ _ _ s₁ (mkF m 0 #[.val (.long q_1), .second, .val (.int p_2), .val (.int p_3), .unset, .unset, .unset, .unset, .unset] [])
  refine own_go (fun _ k => XS.lloadN X0.here hx rfl (hb hby at_0) rfl k) ?_
  show own_Go _ _ _ _ s₁ (mkF m 1 #[.val (.long q_1), .second, .val (.int p_2), .val (.int p_3), .unset, .unset, .unset, .unset, .unset] [(.long q_1)])
  refine own_go (fun _ k => X0.ldc2Long hx hown (mvT hZ (hw _ (List.mem_of_getElem? (i := 0) rfl))) (g := (mkF m 1 #[.val (.long q_1), .second, .val (.int p_2), .val (.int p_3), .unset, .unset, .unset, .unset, .unset] [(.long q_1)])) rfl (hb hby at_1) _ k) ?_
  show own_Go _ _ _ _ s₁ (mkF m 4 #[.val (.long q_1), .second, .val (.int p_2), .val (.int p_3), .unset, .unset, .unset, .unset, .unset] [(.long (65535 : Int64)), (.long q_1)])
  refine own_go (fun _ k => XS.land X0.here hx rfl (hb hby at_4) rfl k) ?_
  show own_Go _ _ _ _ s₁ (mkF m 5 #[.val (.long q_1), .second, .val (.int p_2), .val (.int p_3), .unset, .unset, .unset, .unset, .unset] [(.long (q_1 &&& (65535 : Int64)))])
  refine own_go (fun _ k => XS.l2i X0.here hx rfl (hb hby at_5) rfl k) ?_
  show own_Go _ _ _ _ s₁ (mkF m 6 #[.val (.long q_1), .second, .val (.int p_2), .val (.int p_3), .unset, .unset, .unset, .unset, .unset] [(.int ((q_1 &&& (65535 : Int64)).toInt32))])
  refine own_go (fun _ k => XS.istore X0.here hx rfl (hb hby at_6) rfl (l' := #[.val (.long q_1), .second, .val (.int p_2), .val (.int p_3), .val (.int ((q_1 &&& (65535 : Int64)).toInt32)), .unset, .unset, .unset, .unset]) rfl k) ?_
  show own_Go _ _ _ _ s₁ (mkF m 8 #[.val (.long q_1), .second, .val (.int p_2), .val (.int p_3), .val (.int ((q_1 &&& (65535 : Int64)).toInt32)), .unset, .unset, .unset, .unset] [])
  generalize hdv1 : ((q_1 &&& (65535 : Int64)).toInt32) = v1
  show own_Go _ _ _ _ s₁ (mkF m 8 #[.val (.long q_1), .second, .val (.int p_2), .val (.int p_3), .val (.int v1), .unset, .unset, .unset, .unset] [])
  have hv_r : 0 ≤ v1.toInt ∧ v1.toInt ≤ 65535 := own_t0_0 q_1 v1 hdv1
  refine own_go (fun _ k => XS.iload X0.here hx rfl (hb hby at_8) rfl k) ?_
  show own_Go _ _ _ _ s₁ (mkF m 10 #[.val (.long q_1), .second, .val (.int p_2), .val (.int p_3), .val (.int v1), .unset, .unset, .unset, .unset] [(.int v1)])
  refine own_go (fun _ k => XS.i2l X0.here hx rfl (hb hby at_10) rfl k) ?_
  show own_Go _ _ _ _ s₁ (mkF m 11 #[.val (.long q_1), .second, .val (.int p_2), .val (.int p_3), .val (.int v1), .unset, .unset, .unset, .unset] [(.long (v1.toInt64))])
  obtain ⟨_, _, ⟨T2, L2, k2, n2⟩, -, X2, ⟨Lc2, hQ2, l2, y2, z2⟩, st2⟩ := Jvm.LawKit.callS X0 hx (y := (⟨"com/example/bytewright/bytewright/codec/ByteArrays", "ofLength", "(J)[B"⟩ : MethodName)) hown (mvT hZ (hw _ (List.mem_of_getElem? (i := 1) rfl))) (mvT hZ (hw _ (List.mem_of_getElem? (i := 2) rfl))) (mvT hZ (hw _ (List.mem_of_getElem? (i := 3) rfl))) (mvT hZ (hw _ (List.mem_of_getElem? (i := 4) rfl))) (by decide) (backOf (W := 0) (own_rm1 l Z a0 hw [] (v1.toInt64)  h0 n0 (by omega) (own_t0_1 q_1 v1 hdv1 hv_r)) hZ (hw _ (List.mem_of_getElem? (i := 4) rfl)) (hw _ (List.mem_of_getElem? (i := 3) rfl)) (by decide) (by decide)) (g := (mkF m 11 #[.val (.long q_1), .second, .val (.int p_2), .val (.int p_3), .val (.int v1), .unset, .unset, .unset, .unset] [(.long (v1.toInt64))])) rfl (by rw [hml]; rfl) (argsL := [(.long (v1.toInt64))]) (rest := []) (lenOf own_pd0 rfl) rfl (by show 2 * 0 + _ ≤ _; exact Nat.le_of_eq rfl) (hb hby at_11) (fun _ _ => ⟨rfl, e0, (by decide : 0 + 1 ≤ _), (by decide : 0 + 65535 ≤ _)⟩)
  dsimp only [Pt.U, Pt.locs, Pt.cells, Pt.slots] at X2 l2 y2 z2 st2 hQ2
  have y2 : k2 = 1 := y2
  have z2 : n2 = 65535 := z2
  obtain ⟨x_3, rfl, N2q, K2q, f4, f5⟩ := hQ2
  have N2 : Fr n0 L2 := by rw [l2]; exact Fr.app N0 N2q
  have z6 := K2q.1
  have z7 := own_lt f4.lt
  refine own_go (fun _ k => st2 _ k) ?_
  show own_Go _ _ _ _ T2 (mkF m 14 #[.val (.long q_1), .second, .val (.int p_2), .val (.int p_3), .val (.int v1), .unset, .unset, .unset, .unset] [(.ref x_3)])
  refine own_go (fun _ k => XS.astore X2.here hx rfl (hb hby at_14) rfl rfl (l' := #[.val (.long q_1), .second, .val (.int p_2), .val (.int p_3), .val (.int v1), .val (.ref x_3), .unset, .unset, .unset]) rfl k) ?_
  show own_Go _ _ _ _ T2 (mkF m 16 #[.val (.long q_1), .second, .val (.int p_2), .val (.int p_3), .val (.int v1), .val (.ref x_3), .unset, .unset, .unset] [])
  refine own_go (fun _ k => XS.iload X2.here hx rfl (hb hby at_16) rfl k) ?_
  show own_Go _ _ _ _ T2 (mkF m 18 #[.val (.long q_1), .second, .val (.int p_2), .val (.int p_3), .val (.int v1), .val (.ref x_3), .unset, .unset, .unset] [(.int v1)])
  refine own_go (fun _ k => XS.i2l X2.here hx rfl (hb hby at_18) rfl k) ?_
  show own_Go _ _ _ _ T2 (mkF m 19 #[.val (.long q_1), .second, .val (.int p_2), .val (.int p_3), .val (.int v1), .val (.ref x_3), .unset, .unset, .unset] [(.long (v1.toInt64))])
  obtain ⟨_, _, ⟨T8, L8, k8, n8⟩, -, X8, ⟨Lc8, hQ8, l8, y8, z8⟩, st8⟩ := Jvm.LawKit.callS X2 hx (y := (⟨"com/example/bytewright/bytewright/codec/ByteArrays", "ofLength", "(J)[B"⟩ : MethodName)) hown (mvT hZ (hw _ (List.mem_of_getElem? (i := 1) rfl))) (mvT hZ (hw _ (List.mem_of_getElem? (i := 2) rfl))) (mvT hZ (hw _ (List.mem_of_getElem? (i := 3) rfl))) (mvT hZ (hw _ (List.mem_of_getElem? (i := 4) rfl))) (by decide) (backOf (W := 0) (own_rm1 l Z a0 hw [] (v1.toInt64)  T2.heap n0 (by omega) (own_t0_2 q_1 v1 hdv1 hv_r)) hZ (hw _ (List.mem_of_getElem? (i := 4) rfl)) (hw _ (List.mem_of_getElem? (i := 3) rfl)) (by decide) (by decide)) (g := (mkF m 19 #[.val (.long q_1), .second, .val (.int p_2), .val (.int p_3), .val (.int v1), .val (.ref x_3), .unset, .unset, .unset] [(.long (v1.toInt64))])) rfl (by rw [hml]; rfl) (argsL := [(.long (v1.toInt64))]) (rest := []) (lenOf own_pd0 rfl) rfl (by show 2 * 0 + _ ≤ _; exact Nat.le_of_eq rfl) (hb hby at_19) (fun _ _ => ⟨rfl, rfl, (by show k2 + _ ≤ _; rw [y2]; decide), (by show n2 + _ ≤ _; rw [z2]; decide)⟩)
  dsimp only [Pt.U, Pt.locs, Pt.cells, Pt.slots] at X8 l8 y8 z8 st8 hQ8
  have y8 : k8 = 2 := own_addeq y8 (congrArg (fun q => q) y2) rfl
  have z8 : n8 = 131070 := own_addeq z8 (congrArg (fun q => q) z2) rfl
  obtain ⟨x_9, rfl, N8q, K8q, f10, f11⟩ := hQ8
  have N8 : Fr n0 L8 := by rw [l8]; exact Fr.app N2 N8q
  have z12 := K8q.1
  have z13 := own_lt f10.lt
  refine own_go (fun _ k => st8 _ k) ?_
  show own_Go _ _ _ _ T8 (mkF m 22 #[.val (.long q_1), .second, .val (.int p_2), .val (.int p_3), .val (.int v1), .val (.ref x_3), .unset, .unset, .unset] [(.ref x_9)])
  refine own_go (fun _ k => XS.astore X8.here hx rfl (hb hby at_22) rfl rfl (l' := #[.val (.long q_1), .second, .val (.int p_2), .val (.int p_3), .val (.int v1), .val (.ref x_3), .val (.ref x_9), .unset, .unset]) rfl k) ?_
  show own_Go _ _ _ _ T8 (mkF m 24 #[.val (.long q_1), .second, .val (.int p_2), .val (.int p_3), .val (.int v1), .val (.ref x_3), .val (.ref x_9), .unset, .unset] [])
  refine own_go (fun _ k => XS.aload X8.here hx rfl (hb hby at_24) rfl rfl k) ?_
  show own_Go _ _ _ _ T8 (mkF m 26 #[.val (.long q_1), .second, .val (.int p_2), .val (.int p_3), .val (.int v1), .val (.ref x_3), .val (.ref x_9), .unset, .unset] [(.ref x_3)])
  refine own_go (fun _ k => XS.ifnullNo X8.here hx rfl (hb hby at_26) rfl k) ?_
  show own_Go _ _ _ _ T8 (mkF m 29 #[.val (.long q_1), .second, .val (.int p_2), .val (.int p_3), .val (.int v1), .val (.ref x_3), .val (.ref x_9), .unset, .unset] [])
  refine own_go (fun _ k => XS.aload X8.here hx rfl (hb hby at_29) rfl rfl k) ?_
  show own_Go _ _ _ _ T8 (mkF m 31 #[.val (.long q_1), .second, .val (.int p_2), .val (.int p_3), .val (.int v1), .val (.ref x_3), .val (.ref x_9), .unset, .unset] [(.ref x_9)])
  refine own_go (fun _ k => XS.ifnonnullYes X8.here hx rfl (pc0 := 31) (pc' := 36) rfl (hb hby at_31) rfl (by decide) (by decide) k) ?_
  show own_Go _ _ _ _ T8 (mkF m 36 #[.val (.long q_1), .second, .val (.int p_2), .val (.int p_3), .val (.int v1), .val (.ref x_3), .val (.ref x_9), .unset, .unset] [])
  refine own_go (fun _ k => XS.aload X8.here hx rfl (hb hby at_36) rfl rfl k) ?_
  show own_Go _ _ _ _ T8 (mkF m 38 #[.val (.long q_1), .second, .val (.int p_2), .val (.int p_3), .val (.int v1), .val (.ref x_3), .val (.ref x_9), .unset, .unset] [(.ref x_3)])
  have f14 : own_AV Z T8.heap x_3 .byte ((v1.toInt64).toInt32) (fun _ => (.int (0 : Int32))) := (f4.keep K8q nin0)
  obtain ⟨q15, c15, R15, s15, t15⟩ := id f14
  refine own_go (fun _ k => X8.arraylength hx R15.1 (State.isArrayOf_alike hZ.alike R15.2.1) (g := (mkF m 38 #[.val (.long q_1), .second, .val (.int p_2), .val (.int p_3), .val (.int v1), .val (.ref x_3), .val (.ref x_9), .unset, .unset] [(.ref x_3)])) rfl rfl (hb hby at_38) _ k) ?_
  rw [len_of s15 q15]
  show own_Go _ _ _ _ T8 (mkF m 39 #[.val (.long q_1), .second, .val (.int p_2), .val (.int p_3), .val (.int v1), .val (.ref x_3), .val (.ref x_9), .unset, .unset] [(.int ((v1.toInt64).toInt32))])
  refine own_go (fun _ k => XS.iload X8.here hx rfl (hb hby at_39) rfl k) ?_
  show own_Go _ _ _ _ T8 (mkF m 41 #[.val (.long q_1), .second, .val (.int p_2), .val (.int p_3), .val (.int v1), .val (.ref x_3), .val (.ref x_9), .unset, .unset] [(.int v1), (.int ((v1.toInt64).toInt32))])
  have hc16 : ((v1.toInt64).toInt32) = v1 := own_t0_3 q_1 v1 hdv1 hv_r
  refine own_go (fun _ k => XS.icmpNo X8.here hx rfl (hb hby at_41) rfl (Jvm.Free.XT.ii_ne_f hc16) k) ?_
  show own_Go _ _ _ _ T8 (mkF m 44 #[.val (.long q_1), .second, .val (.int p_2), .val (.int p_3), .val (.int v1), .val (.ref x_3), .val (.ref x_9), .unset, .unset] [])
  refine own_go (fun _ k => XS.aload X8.here hx rfl (hb hby at_44) rfl rfl k) ?_
  show own_Go _ _ _ _ T8 (mkF m 46 #[.val (.long q_1), .second, .val (.int p_2), .val (.int p_3), .val (.int v1), .val (.ref x_3), .val (.ref x_9), .unset, .unset] [(.ref x_9)])
  obtain ⟨q17, c17, R17, s17, t17⟩ := id f10
  refine own_go (fun _ k => X8.arraylength hx R17.1 (State.isArrayOf_alike hZ.alike R17.2.1) (g := (mkF m 46 #[.val (.long q_1), .second, .val (.int p_2), .val (.int p_3), .val (.int v1), .val (.ref x_3), .val (.ref x_9), .unset, .unset] [(.ref x_9)])) rfl rfl (hb hby at_46) _ k) ?_
  rw [len_of s17 q17]
  show own_Go _ _ _ _ T8 (mkF m 47 #[.val (.long q_1), .second, .val (.int p_2), .val (.int p_3), .val (.int v1), .val (.ref x_3), .val (.ref x_9), .unset, .unset] [(.int ((v1.toInt64).toInt32))])
  refine own_go (fun _ k => XS.iload X8.here hx rfl (hb hby at_47) rfl k) ?_
  show own_Go _ _ _ _ T8 (mkF m 49 #[.val (.long q_1), .second, .val (.int p_2), .val (.int p_3), .val (.int v1), .val (.ref x_3), .val (.ref x_9), .unset, .unset] [(.int v1), (.int ((v1.toInt64).toInt32))])
  refine own_go (fun _ k => XS.icmpYes X8.here hx rfl (pc0 := 49) (pc' := 54) rfl (hb hby at_49) rfl (Jvm.Free.XT.ii_eq_t hc16) (by decide) (by decide) k) ?_
  show own_Go _ _ _ _ T8 (mkF m 54 #[.val (.long q_1), .second, .val (.int p_2), .val (.int p_3), .val (.int v1), .val (.ref x_3), .val (.ref x_9), .unset, .unset] [])
  refine own_go (fun _ k => XS.aload X8.here hx rfl (hb hby at_54) rfl rfl k) ?_
  show own_Go _ _ _ _ T8 (mkF m 56 #[.val (.long q_1), .second, .val (.int p_2), .val (.int p_3), .val (.int v1), .val (.ref x_3), .val (.ref x_9), .unset, .unset] [(.ref x_3)])
  refine own_go (fun _ k => XS.aload X8.here hx rfl (hb hby at_56) rfl rfl k) ?_
  show own_Go _ _ _ _ T8 (mkF m 58 #[.val (.long q_1), .second, .val (.int p_2), .val (.int p_3), .val (.int v1), .val (.ref x_3), .val (.ref x_9), .unset, .unset] [(.ref x_9), (.ref x_3)])
  refine own_go (fun _ k => Jvm.RoadKit.acmp (g := (mkF m 58 #[.val (.long q_1), .second, .val (.int p_2), .val (.int p_3), .val (.int v1), .val (.ref x_3), .val (.ref x_9), .unset, .unset] [(.ref x_9), (.ref x_3)])) X8 hx rfl rfl rfl (pc0 := 58) (pc' := 63) (same := false) rfl (hb hby at_58) rfl (decide_eq_false fun q => absurd (Value.ref.inj q) (own_ne (by omega))) (by decide) (by decide) k) ?_
  show own_Go _ _ _ _ T8 (mkF m 63 #[.val (.long q_1), .second, .val (.int p_2), .val (.int p_3), .val (.int v1), .val (.ref x_3), .val (.ref x_9), .unset, .unset] [])
  refine own_go (fun _ k => XS.iload X8.here hx rfl (hb hby at_63) rfl k) ?_
  show own_Go _ _ _ _ T8 (mkF m 65 #[.val (.long q_1), .second, .val (.int p_2), .val (.int p_3), .val (.int v1), .val (.ref x_3), .val (.ref x_9), .unset, .unset] [(.int v1)])
  by_cases hc19 : v1 = 0
  · refine own_go (fun _ k => XS.ifNo X8.here hx rfl (hb hby at_65) rfl (Jvm.Free.XT.i0_ne_f hc19) k) ?_
    show own_Go _ _ _ _ T8 (mkF m 68 #[.val (.long q_1), .second, .val (.int p_2), .val (.int p_3), .val (.int v1), .val (.ref x_3), .val (.ref x_9), .unset, .unset] [])
    refine own_go (fun _ k => XS.iconst X8.here hx rfl (hb hby at_68) k) ?_
    show own_Go _ _ _ _ T8 (mkF m 69 #[.val (.long q_1), .second, .val (.int p_2), .val (.int p_3), .val (.int v1), .val (.ref x_3), .val (.ref x_9), .unset, .unset] [(.int (1 : Int32))])
    obtain ⟨fs, hr, hrun, hended, hW, hsame⟩ := X8.leave (v := some (.int (1 : Int32))) (fun h => by rw [Bd.returns] at h; cases h)
    refine ⟨_, _, retOut X8 hx Bd.returns rfl (Or.inl ⟨rfl, Or.inr (Or.inl rfl), _, rfl⟩) (hb hby at_69) hr, hrun, hended, _, _, rfl, ?_, ⟨_, rfl⟩, hW, hsame.mono (by rw [y8]; decide) (by rw [z8]; decide)⟩
    exact ⟨rfl, N8⟩
  · refine own_go (fun _ k => XS.ifYes X8.here hx rfl (pc0 := 65) (pc' := 70) rfl (hb hby at_65) rfl (Jvm.Free.XT.i0_ne_t hc19) (by decide) (by decide) k) ?_
    show own_Go _ _ _ _ T8 (mkF m 70 #[.val (.long q_1), .second, .val (.int p_2), .val (.int p_3), .val (.int v1), .val (.ref x_3), .val (.ref x_9), .unset, .unset] [])
    refine own_go (fun _ k => XS.iloadN X8.here hx rfl (hb hby at_70) rfl k) ?_
    show own_Go _ _ _ _ T8 (mkF m 71 #[.val (.long q_1), .second, .val (.int p_2), .val (.int p_3), .val (.int v1), .val (.ref x_3), .val (.ref x_9), .unset, .unset] [(.int p_2)])
    refine own_go (fun _ k => X8.ldcInt hx hown (mvT hZ (hw _ (List.mem_of_getElem? (i := 7) rfl))) (g := (mkF m 71 #[.val (.long q_1), .second, .val (.int p_2), .val (.int p_3), .val (.int v1), .val (.ref x_3), .val (.ref x_9), .unset, .unset] [(.int p_2)])) rfl (hb hby at_71) _ k) ?_
    show own_Go _ _ _ _ T8 (mkF m 73 #[.val (.long q_1), .second, .val (.int p_2), .val (.int p_3), .val (.int v1), .val (.ref x_3), .val (.ref x_9), .unset, .unset] [(.int (2147483647 : Int32)), (.int p_2)])
    refine own_go (fun _ k => XS.iand X8.here hx rfl (hb hby at_73) rfl k) ?_
    show own_Go _ _ _ _ T8 (mkF m 74 #[.val (.long q_1), .second, .val (.int p_2), .val (.int p_3), .val (.int v1), .val (.ref x_3), .val (.ref x_9), .unset, .unset] [(.int (p_2 &&& (2147483647 : Int32)))])
    refine own_go (fun _ k => XS.iload X8.here hx rfl (hb hby at_74) rfl k) ?_
    show own_Go _ _ _ _ T8 (mkF m 76 #[.val (.long q_1), .second, .val (.int p_2), .val (.int p_3), .val (.int v1), .val (.ref x_3), .val (.ref x_9), .unset, .unset] [(.int v1), (.int (p_2 &&& (2147483647 : Int32)))])
    have nz21 : v1 ≠ 0 := own_t0_4 q_1 v1 hdv1 hv_r hc16 hc19
    refine own_go (fun _ k => iremM X8 hx rfl (hb hby at_76) rfl nz21 k) ?_
    show own_Go _ _ _ _ T8 (mkF m 77 #[.val (.long q_1), .second, .val (.int p_2), .val (.int p_3), .val (.int v1), .val (.ref x_3), .val (.ref x_9), .unset, .unset] [(.int ((p_2 &&& (2147483647 : Int32)) % v1))])
    refine own_go (fun _ k => XS.istore X8.here hx rfl (hb hby at_77) rfl (l' := #[.val (.long q_1), .second, .val (.int p_2), .val (.int p_3), .val (.int v1), .val (.ref x_3), .val (.ref x_9), .val (.int ((p_2 &&& (2147483647 : Int32)) % v1)), .unset]) rfl k) ?_
    show own_Go _ _ _ _ T8 (mkF m 79 #[.val (.long q_1), .second, .val (.int p_2), .val (.int p_3), .val (.int v1), .val (.ref x_3), .val (.ref x_9), .val (.int ((p_2 &&& (2147483647 : Int32)) % v1)), .unset] [])
    generalize hdv22 : ((p_2 &&& (2147483647 : Int32)) % v1) = v22
    show own_Go _ _ _ _ T8 (mkF m 79 #[.val (.long q_1), .second, .val (.int p_2), .val (.int p_3), .val (.int v1), .val (.ref x_3), .val (.ref x_9), .val (.int v22), .unset] [])
    have hk_r : 0 ≤ v22.toInt ∧ v22.toInt < v1.toInt := own_t0_5 q_1 p_2 v1 v22 hdv1 hv_r hc16 hc19 hdv22
    refine own_go (fun _ k => XS.aload X8.here hx rfl (hb hby at_79) rfl rfl k) ?_
    show own_Go _ _ _ _ T8 (mkF m 81 #[.val (.long q_1), .second, .val (.int p_2), .val (.int p_3), .val (.int v1), .val (.ref x_3), .val (.ref x_9), .val (.int v22), .unset] [(.ref x_3)])
    refine own_go (fun _ k => XS.iconst X8.here hx rfl (hb hby at_81) k) ?_
    show own_Go _ _ _ _ T8 (mkF m 82 #[.val (.long q_1), .second, .val (.int p_2), .val (.int p_3), .val (.int v1), .val (.ref x_3), .val (.ref x_9), .val (.int v22), .unset] [(.int (0 : Int32)), (.ref x_3)])
    obtain ⟨q23, c23, R23, s23, t23⟩ := id f14
    have hin23 : ¬ ((0 : Int32) < 0 ∨ c23.slots.size ≤ ((0 : Int32)).toNatClampNeg) := inb_of s23 (own_t0_6 q_1 p_2 v1 v22 hdv1 hv_r hc16 hc19 hdv22 hk_r)
    have u23 : c23.slots[((0 : Int32)).toNatClampNeg]? = some (.int (0 : Int32)) := own_at (k := 0) t23 s23 hin23 (by decide) (rfl)
    refine own_go (fun _ k => X8.baloadBytes hx (j := (0 : Int32)) (v := (.int (0 : Int32))) R23.1 (State.isArrayOf_alike hZ.alike R23.2.1) R23.2.2 hin23 u23 (g := (mkF m 82 #[.val (.long q_1), .second, .val (.int p_2), .val (.int p_3), .val (.int v1), .val (.ref x_3), .val (.ref x_9), .val (.int v22), .unset] [(.int (0 : Int32)), (.ref x_3)])) rfl rfl (hb hby at_82) _ k) ?_
    show own_Go _ _ _ _ T8 (mkF m 83 #[.val (.long q_1), .second, .val (.int p_2), .val (.int p_3), .val (.int v1), .val (.ref x_3), .val (.ref x_9), .val (.int v22), .unset] [(.int (0 : Int32))])
    have hc24 : (0 : Int32) = 0 := by decide
    refine own_go (fun _ k => XS.ifNo X8.here hx rfl (hb hby at_83) rfl (Jvm.Free.XT.i0_ne_f hc24) k) ?_
    show own_Go _ _ _ _ T8 (mkF m 86 #[.val (.long q_1), .second, .val (.int p_2), .val (.int p_3), .val (.int v1), .val (.ref x_3), .val (.ref x_9), .val (.int v22), .unset] [])
    refine own_go (fun _ k => XS.aload X8.here hx rfl (hb hby at_86) rfl rfl k) ?_
    show own_Go _ _ _ _ T8 (mkF m 88 #[.val (.long q_1), .second, .val (.int p_2), .val (.int p_3), .val (.int v1), .val (.ref x_3), .val (.ref x_9), .val (.int v22), .unset] [(.ref x_3)])
    refine own_go (fun _ k => XS.iload X8.here hx rfl (hb hby at_88) rfl k) ?_
    show own_Go _ _ _ _ T8 (mkF m 90 #[.val (.long q_1), .second, .val (.int p_2), .val (.int p_3), .val (.int v1), .val (.ref x_3), .val (.ref x_9), .val (.int v22), .unset] [(.int v1), (.ref x_3)])
    refine own_go (fun _ k => XS.iconst X8.here hx rfl (hb hby at_90) k) ?_
    show own_Go _ _ _ _ T8 (mkF m 91 #[.val (.long q_1), .second, .val (.int p_2), .val (.int p_3), .val (.int v1), .val (.ref x_3), .val (.ref x_9), .val (.int v22), .unset] [(.int (1 : Int32)), (.int v1), (.ref x_3)])
    refine own_go (fun _ k => XS.isub X8.here hx rfl (hb hby at_91) rfl k) ?_
    show own_Go _ _ _ _ T8 (mkF m 92 #[.val (.long q_1), .second, .val (.int p_2), .val (.int p_3), .val (.int v1), .val (.ref x_3), .val (.ref x_9), .val (.int v22), .unset] [(.int (v1 - (1 : Int32))), (.ref x_3)])
    obtain ⟨q25, c25, R25, s25, t25⟩ := id f14
    have hin25 : ¬ ((v1 - (1 : Int32)) < 0 ∨ c25.slots.size ≤ ((v1 - (1 : Int32))).toNatClampNeg) := inb_of s25 (own_t0_7 q_1 p_2 v1 v22 hdv1 hv_r hc16 hc19 hdv22 hk_r)
    have u25 : c25.slots[((v1 - (1 : Int32))).toNatClampNeg]? = some (.int (0 : Int32)) := own_at (k := ((v1 - (1 : Int32))).toNatClampNeg) t25 s25 hin25 rfl (rfl)
    refine own_go (fun _ k => X8.baloadBytes hx (j := (v1 - (1 : Int32))) (v := (.int (0 : Int32))) R25.1 (State.isArrayOf_alike hZ.alike R25.2.1) R25.2.2 hin25 u25 (g := (mkF m 92 #[.val (.long q_1), .second, .val (.int p_2), .val (.int p_3), .val (.int v1), .val (.ref x_3), .val (.ref x_9), .val (.int v22), .unset] [(.int (v1 - (1 : Int32))), (.ref x_3)])) rfl rfl (hb hby at_92) _ k) ?_
    show own_Go _ _ _ _ T8 (mkF m 93 #[.val (.long q_1), .second, .val (.int p_2), .val (.int p_3), .val (.int v1), .val (.ref x_3), .val (.ref x_9), .val (.int v22), .unset] [(.int (0 : Int32))])
    have hc26 : (0 : Int32) = 0 := by decide
    refine own_go (fun _ k => XS.ifNo X8.here hx rfl (hb hby at_93) rfl (Jvm.Free.XT.i0_ne_f hc26) k) ?_
    show own_Go _ _ _ _ T8 (mkF m 96 #[.val (.long q_1), .second, .val (.int p_2), .val (.int p_3), .val (.int v1), .val (.ref x_3), .val (.ref x_9), .val (.int v22), .unset] [])
    refine own_go (fun _ k => XS.aload X8.here hx rfl (hb hby at_96) rfl rfl k) ?_
    show own_Go _ _ _ _ T8 (mkF m 98 #[.val (.long q_1), .second, .val (.int p_2), .val (.int p_3), .val (.int v1), .val (.ref x_3), .val (.ref x_9), .val (.int v22), .unset] [(.ref x_3)])
    refine own_go (fun _ k => XS.iload X8.here hx rfl (hb hby at_98) rfl k) ?_
    show own_Go _ _ _ _ T8 (mkF m 100 #[.val (.long q_1), .second, .val (.int p_2), .val (.int p_3), .val (.int v1), .val (.ref x_3), .val (.ref x_9), .val (.int v22), .unset] [(.int v22), (.ref x_3)])
    obtain ⟨q27, c27, R27, s27, t27⟩ := id f14
    have hin27 : ¬ (v22 < 0 ∨ c27.slots.size ≤ (v22).toNatClampNeg) := inb_of s27 (own_t0_8 q_1 p_2 v1 v22 hdv1 hv_r hc16 hc19 hdv22 hk_r)
    have u27 : c27.slots[(v22).toNatClampNeg]? = some (.int (0 : Int32)) := own_at (k := (v22).toNatClampNeg) t27 s27 hin27 rfl (rfl)
    refine own_go (fun _ k => X8.baloadBytes hx (j := v22) (v := (.int (0 : Int32))) R27.1 (State.isArrayOf_alike hZ.alike R27.2.1) R27.2.2 hin27 u27 (g := (mkF m 100 #[.val (.long q_1), .second, .val (.int p_2), .val (.int p_3), .val (.int v1), .val (.ref x_3), .val (.ref x_9), .val (.int v22), .unset] [(.int v22), (.ref x_3)])) rfl rfl (hb hby at_100) _ k) ?_
    show own_Go _ _ _ _ T8 (mkF m 101 #[.val (.long q_1), .second, .val (.int p_2), .val (.int p_3), .val (.int v1), .val (.ref x_3), .val (.ref x_9), .val (.int v22), .unset] [(.int (0 : Int32))])
    have hc28 : (0 : Int32) = 0 := by decide
    refine own_go (fun _ k => XS.ifNo X8.here hx rfl (hb hby at_101) rfl (Jvm.Free.XT.i0_ne_f hc28) k) ?_
    show own_Go _ _ _ _ T8 (mkF m 104 #[.val (.long q_1), .second, .val (.int p_2), .val (.int p_3), .val (.int v1), .val (.ref x_3), .val (.ref x_9), .val (.int v22), .unset] [])
    refine own_go (fun _ k => XS.aload X8.here hx rfl (hb hby at_104) rfl rfl k) ?_
    show own_Go _ _ _ _ T8 (mkF m 106 #[.val (.long q_1), .second, .val (.int p_2), .val (.int p_3), .val (.int v1), .val (.ref x_3), .val (.ref x_9), .val (.int v22), .unset] [(.ref x_9)])
    refine own_go (fun _ k => XS.iload X8.here hx rfl (hb hby at_106) rfl k) ?_
    show own_Go _ _ _ _ T8 (mkF m 108 #[.val (.long q_1), .second, .val (.int p_2), .val (.int p_3), .val (.int v1), .val (.ref x_3), .val (.ref x_9), .val (.int v22), .unset] [(.int v22), (.ref x_9)])
    obtain ⟨q29, c29, R29, s29, t29⟩ := id f10
    have hin29 : ¬ (v22 < 0 ∨ c29.slots.size ≤ (v22).toNatClampNeg) := inb_of s29 (own_t0_9 q_1 p_2 v1 v22 hdv1 hv_r hc16 hc19 hdv22 hk_r)
    have u29 : c29.slots[(v22).toNatClampNeg]? = some (.int (0 : Int32)) := own_at (k := (v22).toNatClampNeg) t29 s29 hin29 rfl (rfl)
    refine own_go (fun _ k => X8.baloadBytes hx (j := v22) (v := (.int (0 : Int32))) R29.1 (State.isArrayOf_alike hZ.alike R29.2.1) R29.2.2 hin29 u29 (g := (mkF m 108 #[.val (.long q_1), .second, .val (.int p_2), .val (.int p_3), .val (.int v1), .val (.ref x_3), .val (.ref x_9), .val (.int v22), .unset] [(.int v22), (.ref x_9)])) rfl rfl (hb hby at_108) _ k) ?_
    show own_Go _ _ _ _ T8 (mkF m 109 #[.val (.long q_1), .second, .val (.int p_2), .val (.int p_3), .val (.int v1), .val (.ref x_3), .val (.ref x_9), .val (.int v22), .unset] [(.int (0 : Int32))])
    have hc30 : (0 : Int32) = 0 := by decide
    refine own_go (fun _ k => XS.ifYes X8.here hx rfl (pc0 := 109) (pc' := 114) rfl (hb hby at_109) rfl (Jvm.Free.XT.i0_eq_t hc30) (by decide) (by decide) k) ?_
    show own_Go _ _ _ _ T8 (mkF m 114 #[.val (.long q_1), .second, .val (.int p_2), .val (.int p_3), .val (.int v1), .val (.ref x_3), .val (.ref x_9), .val (.int v22), .unset] [])
    refine own_go (fun _ k => XS.iloadN X8.here hx rfl (hb hby at_114) rfl k) ?_
    show own_Go _ _ _ _ T8 (mkF m 115 #[.val (.long q_1), .second, .val (.int p_2), .val (.int p_3), .val (.int v1), .val (.ref x_3), .val (.ref x_9), .val (.int v22), .unset] [(.int p_3)])
    refine own_go (fun _ k => XS.iconst X8.here hx rfl (hb hby at_115) k) ?_
    show own_Go _ _ _ _ T8 (mkF m 116 #[.val (.long q_1), .second, .val (.int p_2), .val (.int p_3), .val (.int v1), .val (.ref x_3), .val (.ref x_9), .val (.int v22), .unset] [(.int (1 : Int32)), (.int p_3)])
    refine own_go (fun _ k => XS.ior X8.here hx rfl (hb hby at_116) rfl k) ?_
    show own_Go _ _ _ _ T8 (mkF m 117 #[.val (.long q_1), .second, .val (.int p_2), .val (.int p_3), .val (.int v1), .val (.ref x_3), .val (.ref x_9), .val (.int v22), .unset] [(.int (p_3 ||| (1 : Int32)))])
    refine own_go (fun _ k => XS.i2b X8.here hx rfl (hb hby at_117) rfl k) ?_
    show own_Go _ _ _ _ T8 (mkF m 118 #[.val (.long q_1), .second, .val (.int p_2), .val (.int p_3), .val (.int v1), .val (.ref x_3), .val (.ref x_9), .val (.int v22), .unset] [(.int ((p_3 ||| (1 : Int32)).toInt8.toInt32))])
    refine own_go (fun _ k => XS.istore X8.here hx rfl (hb hby at_118) rfl (l' := #[.val (.long q_1), .second, .val (.int p_2), .val (.int p_3), .val (.int v1), .val (.ref x_3), .val (.ref x_9), .val (.int v22), .val (.int ((p_3 ||| (1 : Int32)).toInt8.toInt32))]) rfl k) ?_
    show own_Go _ _ _ _ T8 (mkF m 120 #[.val (.long q_1), .second, .val (.int p_2), .val (.int p_3), .val (.int v1), .val (.ref x_3), .val (.ref x_9), .val (.int v22), .val (.int ((p_3 ||| (1 : Int32)).toInt8.toInt32))] [])
    generalize hdv31 : ((p_3 ||| (1 : Int32)).toInt8.toInt32) = v31
    show own_Go _ _ _ _ T8 (mkF m 120 #[.val (.long q_1), .second, .val (.int p_2), .val (.int p_3), .val (.int v1), .val (.ref x_3), .val (.ref x_9), .val (.int v22), .val (.int v31)] [])
    refine own_go (fun _ k => XS.aload X8.here hx rfl (hb hby at_120) rfl rfl k) ?_
    show own_Go _ _ _ _ T8 (mkF m 122 #[.val (.long q_1), .second, .val (.int p_2), .val (.int p_3), .val (.int v1), .val (.ref x_3), .val (.ref x_9), .val (.int v22), .val (.int v31)] [(.ref x_3)])
    refine own_go (fun _ k => XS.iload X8.here hx rfl (hb hby at_122) rfl k) ?_
    show own_Go _ _ _ _ T8 (mkF m 124 #[.val (.long q_1), .second, .val (.int p_2), .val (.int p_3), .val (.int v1), .val (.ref x_3), .val (.ref x_9), .val (.int v22), .val (.int v31)] [(.int v22), (.ref x_3)])
    refine own_go (fun _ k => XS.iload X8.here hx rfl (hb hby at_124) rfl k) ?_
    show own_Go _ _ _ _ T8 (mkF m 126 #[.val (.long q_1), .second, .val (.int p_2), .val (.int p_3), .val (.int v1), .val (.ref x_3), .val (.ref x_9), .val (.int v22), .val (.int v31)] [(.int v31), (.int v22), (.ref x_3)])
    obtain ⟨q32, c32, R32, s32, t32⟩ := id f14
    have hin32 : ¬ (v22 < 0 ∨ c32.slots.size ≤ (v22).toNatClampNeg) := inb_of s32 (own_t0_10 q_1 p_2 v1 v22 hdv1 hv_r hc16 hc19 hdv22 hk_r)
    obtain ⟨T33, h33, X33, e33, W33, st33⟩ := stB X8 hx hZ rfl R32 (j := v22) hin32 (g := (mkF m 126 #[.val (.long q_1), .second, .val (.int p_2), .val (.int p_3), .val (.int v1), .val (.ref x_3), .val (.ref x_9), .val (.int v22), .val (.int v31)] [(.int v31), (.int v22), (.ref x_3)])) rfl rfl (hb hby at_126)
    have V33 : own_AV Z h33 x_3 .byte ((v1.toInt64).toInt32) (own_upd (fun _ => (.int (0 : Int32))) (v22).toNatClampNeg (.int (nar .byte v31))) := own_AV.set (k := (v22).toNatClampNeg) f14 W33 rfl
    have z34 := W33.size
    have N33 := Fr.snoc X33 N8 (by omega : n0 ≤ x_3)
    refine own_go (fun _ k => st33 _ k) ?_
    show own_Go _ _ _ _ T33 (mkF m 127 #[.val (.long q_1), .second, .val (.int p_2), .val (.int p_3), .val (.int v1), .val (.ref x_3), .val (.ref x_9), .val (.int v22), .val (.int v31)] [])
    refine own_go (fun _ k => XS.aload X33.here hx rfl (hb hby at_127) rfl rfl k) ?_
    show own_Go _ _ _ _ T33 (mkF m 129 #[.val (.long q_1), .second, .val (.int p_2), .val (.int p_3), .val (.int v1), .val (.ref x_3), .val (.ref x_9), .val (.int v22), .val (.int v31)] [(.ref x_9)])
    refine own_go (fun _ k => XS.iload X33.here hx rfl (hb hby at_129) rfl k) ?_
    show own_Go _ _ _ _ T33 (mkF m 131 #[.val (.long q_1), .second, .val (.int p_2), .val (.int p_3), .val (.int v1), .val (.ref x_3), .val (.ref x_9), .val (.int v22), .val (.int v31)] [(.int v22), (.ref x_9)])
    have f35 : own_AV Z h33 x_9 .byte ((v1.toInt64).toInt32) (fun _ => (.int (0 : Int32))) := (f10.other W33 (own_ne (by omega)))
    obtain ⟨q36, c36, R36, s36, t36⟩ := id f35
    have hin36 : ¬ (v22 < 0 ∨ c36.slots.size ≤ (v22).toNatClampNeg) := inb_of s36 (own_t0_11 q_1 p_2 v1 v22 hdv1 hv_r hc16 hc19 hdv22 hk_r)
    have u36 : c36.slots[(v22).toNatClampNeg]? = some (.int (0 : Int32)) := own_at (k := (v22).toNatClampNeg) t36 s36 hin36 rfl (rfl)
    refine own_go (fun _ k => X33.baloadBytes hx (j := v22) (v := (.int (0 : Int32))) (by rw [e33]; exact R36.1) (State.isArrayOf_alike hZ.alike R36.2.1) R36.2.2 hin36 u36 (g := (mkF m 131 #[.val (.long q_1), .second, .val (.int p_2), .val (.int p_3), .val (.int v1), .val (.ref x_3), .val (.ref x_9), .val (.int v22), .val (.int v31)] [(.int v22), (.ref x_9)])) rfl rfl (hb hby at_131) _ k) ?_
    show own_Go _ _ _ _ T33 (mkF m 132 #[.val (.long q_1), .second, .val (.int p_2), .val (.int p_3), .val (.int v1), .val (.ref x_3), .val (.ref x_9), .val (.int v22), .val (.int v31)] [(.int (0 : Int32))])
    have hc37 : (0 : Int32) = 0 := by decide
    refine own_go (fun _ k => XS.ifNo X33.here hx rfl (hb hby at_132) rfl (Jvm.Free.XT.i0_ne_f hc37) k) ?_
    show own_Go _ _ _ _ T33 (mkF m 135 #[.val (.long q_1), .second, .val (.int p_2), .val (.int p_3), .val (.int v1), .val (.ref x_3), .val (.ref x_9), .val (.int v22), .val (.int v31)] [])
    refine own_go (fun _ k => XS.aload X33.here hx rfl (hb hby at_135) rfl rfl k) ?_
    show own_Go _ _ _ _ T33 (mkF m 137 #[.val (.long q_1), .second, .val (.int p_2), .val (.int p_3), .val (.int v1), .val (.ref x_3), .val (.ref x_9), .val (.int v22), .val (.int v31)] [(.ref x_3)])
    refine own_go (fun _ k => XS.iload X33.here hx rfl (hb hby at_137) rfl k) ?_
    show own_Go _ _ _ _ T33 (mkF m 139 #[.val (.long q_1), .second, .val (.int p_2), .val (.int p_3), .val (.int v1), .val (.ref x_3), .val (.ref x_9), .val (.int v22), .val (.int v31)] [(.int v22), (.ref x_3)])
    obtain ⟨q38, c38, R38, s38, t38⟩ := id V33
    have hin38 : ¬ (v22 < 0 ∨ c38.slots.size ≤ (v22).toNatClampNeg) := inb_of s38 (own_t0_12 q_1 p_2 v1 v22 hdv1 hv_r hc16 hc19 hdv22 hk_r)
    have u38 : c38.slots[(v22).toNatClampNeg]? = some (.int (nar .byte v31)) := own_at (k := (v22).toNatClampNeg) t38 s38 hin38 rfl (by simp [own_upd])
    refine own_go (fun _ k => X33.baloadBytes hx (j := v22) (v := (.int (nar .byte v31))) (by rw [e33]; exact R38.1) (State.isArrayOf_alike hZ.alike R38.2.1) R38.2.2 hin38 u38 (g := (mkF m 139 #[.val (.long q_1), .second, .val (.int p_2), .val (.int p_3), .val (.int v1), .val (.ref x_3), .val (.ref x_9), .val (.int v22), .val (.int v31)] [(.int v22), (.ref x_3)])) rfl rfl (hb hby at_139) _ k) ?_
    show own_Go _ _ _ _ T33 (mkF m 140 #[.val (.long q_1), .second, .val (.int p_2), .val (.int p_3), .val (.int v1), .val (.ref x_3), .val (.ref x_9), .val (.int v22), .val (.int v31)] [(.int (nar .byte v31))])
    refine own_go (fun _ k => XS.iload X33.here hx rfl (hb hby at_140) rfl k) ?_
    show own_Go _ _ _ _ T33 (mkF m 142 #[.val (.long q_1), .second, .val (.int p_2), .val (.int p_3), .val (.int v1), .val (.ref x_3), .val (.ref x_9), .val (.int v22), .val (.int v31)] [(.int v31), (.int (nar .byte v31))])
    have hc39 : (nar .byte v31) = v31 := own_t0_13 p_3 v31 hdv31
    refine own_go (fun _ k => XS.icmpNo X33.here hx rfl (hb hby at_142) rfl (Jvm.Free.XT.ii_ne_f hc39) k) ?_
    show own_Go _ _ _ _ T33 (mkF m 145 #[.val (.long q_1), .second, .val (.int p_2), .val (.int p_3), .val (.int v1), .val (.ref x_3), .val (.ref x_9), .val (.int v22), .val (.int v31)] [])
    refine own_go (fun _ k => XS.iconst X33.here hx rfl (hb hby at_145) k) ?_
    show own_Go _ _ _ _ T33 (mkF m 146 #[.val (.long q_1), .second, .val (.int p_2), .val (.int p_3), .val (.int v1), .val (.ref x_3), .val (.ref x_9), .val (.int v22), .val (.int v31)] [(.int (1 : Int32))])
    refine own_go (fun _ k => XS.goto X33.here hx rfl (pc0 := 146) (pc' := 150) rfl (hb hby at_146) (by decide) (by decide) k) ?_
    show own_Go _ _ _ _ T33 (mkF m 150 #[.val (.long q_1), .second, .val (.int p_2), .val (.int p_3), .val (.int v1), .val (.ref x_3), .val (.ref x_9), .val (.int v22), .val (.int v31)] [(.int (1 : Int32))])
    obtain ⟨fs, hr, hrun, hended, hW, hsame⟩ := X33.leave (v := some (.int (1 : Int32))) (fun h => by rw [Bd.returns] at h; cases h)
    refine ⟨_, _, retOut X33 hx Bd.returns rfl (Or.inl ⟨rfl, Or.inr (Or.inl rfl), _, rfl⟩) (hb hby at_150) hr, hrun, hended, _, _, rfl, ?_, ⟨_, rfl⟩, hW, hsame.mono (by rw [y8]; decide) (by rw [z8]; decide)⟩
    show own_Q0 Z q_1 p_2 p_3 h0 n0 _ T33.heap _
    rw [e33]
    exact ⟨rfl, N33⟩
set_option maxRecDepth 65536 in
set_option maxHeartbeats 40000000 in
theorem comes_1 {Post : Tables → Env → Array Value → State → Outcome → State → Prop} (hpost : ∀ tb e args s v u, (limb_1_1.after args s (.returned v) u = true ∧ limb_1_2.after args s (.returned v) u = true ∧ True) → FrameEnd s (.returned v) u (Jvm.fieldLocs frame_1_writes args s ++ Jvm.arrayLocs frame_1_arrays args s ++ Jvm.staticLocs frame_1_statics s) 16 157312 → Post tb e args s (.returned v) u) :
    ArmFor flags0 classFile x code maxLocals ret World_1 tables_1 room_1 Calls_1 rest_1 Pre_1 Post := by
  intro l hfl _ _ p e ha hc hk s m args below hf hA hF happ hP
  obtain ⟨hcalls, hrest, hpre⟩ := hP
  obtain ⟨-, -, -, hnamed, -, -, -, hat⟩ := (Spec.applies_iff hf).mp happ
  obtain ⟨hg, hn⟩ := and_e (Cond.before_iff.mp (show (Jvm.Cond.and given_1 narrow_1).before args s = true from hpre))
  obtain ⟨g1, g2⟩ := and_e hg
  obtain ⟨g3, g4⟩ := and_e g2
  obtain ⟨g5, g6⟩ := and_e g4
  obtain ⟨w0, w1, w2, rfl⟩ : ∃ w0 w1 w2 : Value, args = #[w0, w1, w2] := by
    have hs : args.size = 3 := by simpa [Cond.value, given_1] using g1
    obtain ⟨L⟩ := args
    match L, hs with
    | [w0, w1, w2], _ => exact ⟨w0, w1, w2, rfl⟩
  have hw := fun d (hd : d ∈ tables_1) => atoms_spec (ws := Jvm.Cond.code x code maxLocals ret :: tables_1) hat d (List.mem_cons_of_mem _ hd)
  have hfit : Fit s := fun {y c} hc i hi => by
    obtain ⟨ha, rfl⟩ := Array.getElem?_eq_some_iff.mp hc
    have q := List.all_eq_true.mp ((Array.all_eq_true_iff_forall_mem.mp hF) _ (Array.getElem_mem ha)) i (List.mem_range.mpr hi)
    simpa [Array.getElem?_eq_getElem hi] using q
  obtain ⟨i0, ei0⟩ := isL_v g3
  obtain rfl : w0 = (.long i0) := Option.some.inj ei0
  obtain ⟨i1, ei1⟩ := is_v g5
  obtain rfl : w1 = (.int i1) := Option.some.inj ei1
  obtain ⟨i2, ei2⟩ := is_v g6
  obtain rfl : w2 = (.int i2) := Option.some.inj ei2
  obtain ⟨n, o, h1, h2, h3, _, L, rfl, ⟨rfl, N⟩, hq⟩ := own_rm0 l s _ hw tables_1 i0 i1 i2  s.heap s.heap.size (Nat.le_refl _)  p e ha hc hk s m _ below hf ((Spec.applies_iff_loose hf).mp happ).1 ⟨rfl, State.Warmed39.refl s, rfl⟩ trivial
  refine ⟨n, _, h1, h2, h3, hpost _ _ _ _ _ _ ⟨Cond.after_iff.mpr rfl, Cond.after_iff.mpr (eq_i res_at (Term.int_eval (1)) rfl), trivial⟩ ⟨hq.1, hq.2.1, (hq.2.2.sift fun y hy => Or.inr (N y hy)).mono (by decide) (by decide)⟩⟩
theorem main_1_1 : Claimed_1_1 := comes_1 fun _ _ _ _ _ _ h hF => ⟨h.1, hF⟩
theorem main_1_2 : Claimed_1_2 := comes_1 fun _ _ _ _ _ _ h hF => ⟨h.2.1, hF⟩
end Jvm.Pilot.@@N@@
namespace Jvm.Pilot.@@N@@
open Jvm Jvm.ClassFile Sem Op Lib Jvm.Free Jvm.Stand Jvm.Pilot.@@N@@.Jvm.D
/-! MADE BY PROGRAM (witnessworld.py) out of the Statement's table words and the real class files: 9 classes; the members and pool entries that the words name. The judged class is class 1, her method 1. -/
namespace start1
open Jvm.ClassFile
def u (s : String) : CpInfo := .utf8 (stringToUtf16 s)
/-- a pool by its gaps: so many unusable entries, then the entry; so many at the end -/
def gap : Nat → List CpInfo → List CpInfo
  | 0, r => r
  | n + 1, r => .unusable :: gap n r
def poolList (es : List (Nat × CpInfo)) (last : Nat) : List CpInfo := es.foldr (fun e r => gap e.1 (e.2 :: r)) (gap last [])
def pool (es : List (Nat × CpInfo)) (last : Nat) : Array CpInfo := ⟨poolList es last⟩
def fileOf (pool : Array CpInfo) (this : Nat) (attrs : Array Attribute := #[]) (ms : Array MethodInfo := #[]) (fl : Nat := 33) (sup : Nat := 0) (ifs : Array Nat := #[]) (fds : Array FieldInfo := #[]) : ClassFile where
  minorVersion := 0
  majorVersion := 65
  constantPool := pool
  accessFlags := fl
  thisClass := this
  superClass := sup
  interfaces := ifs
  fields := fds
  methods := ms
  attributes := attrs
def plain (name : String) (sup : Option ClassId) : Class where
  name := name
  kind := .ordinary
  loader := none
  accessFlags := 33
  super := sup
  interfaces := #[]
  cf := none
  fields := #[]
  methods := #[]
  instanceTypes := #[]
  staticTypes := #[]
  resolved := #[]
  callSites := []
  init := .initialized
  statics := none
  mirror := none

def pool0 : Array CpInfo := pool [(5, u "<init>"), (0, u "()V"), (1, .class_ 10), (1, u "java/lang/Object")] 113

def k0m0 : Method := { name := "<init>", desc := "()V", sig := { parameters := [], returnType := none }, accessFlags := 1, code := none }
/-- java/lang/Object -/
def k0 : Class := { plain "java/lang/Object" none with
  accessFlags := 33
  interfaces := #[]
  cf := some (fileOf pool0 8 #[] #[{ accessFlags := 1, nameIndex := 5, descriptorIndex := 6, attributes := #[] }] 33 0 #[] #[])
  fields := #[]
  methods := #[k0m0]
  instanceTypes := #[]
  staticTypes := #[]
  resolved := Array.replicate 124 none
  statics := none }

def pool1 : Array CpInfo := pool [(2, .class_ 4), (1, u "java/lang/Object"), (0, u "<init>"), (0, u "()V"), (0, .long 65535), (1, .methodref 10 11), (0, .class_ 12), (0, .nameAndType 13 14), (0, u "com/example/bytewright/bytewright/codec/ByteArrays"), (0, u "ofLength"), (0, u "(J)[B"), (0, .integer 2147483647), (0, .class_ 17), (0, u "com/example/bytewright/bytewright/codec/ByteArraysOfLengthPinLaw"), (2, u "law"), (0, u "(JII)Z")] 5

def k1m0 : Method := { name := "<init>", desc := "()V", sig := { parameters := [], returnType := none }, accessFlags := 2, code := none }
def k1c1 : Code := { maxStack := 4, maxLocals := 9, code := code, exceptionTable := #[], attributes := #[] }
def k1m1 : Method := { name := "law", desc := "(JII)Z", sig := { parameters := [.long, .int, .int], returnType := some .boolean }, accessFlags := 9, code := some k1c1 }
/-- com/example/bytewright/bytewright/codec/ByteArraysOfLengthPinLaw -/
def k1 : Class := { plain "com/example/bytewright/bytewright/codec/ByteArraysOfLengthPinLaw" (some 0) with
  accessFlags := 49
  interfaces := #[]
  cf := some (fileOf pool1 16 #[] #[{ accessFlags := 2, nameIndex := 5, descriptorIndex := 6, attributes := #[] }, { accessFlags := 9, nameIndex := 20, descriptorIndex := 21, attributes := #[] }] 49 2 #[] #[])
  fields := #[]
  methods := #[k1m0, k1m1]
  instanceTypes := #[]
  staticTypes := #[]
  resolved := Array.replicate 27 none
  statics := none }

def pool2 : Array CpInfo := pool [(4, .class_ 6), (1, u "java/lang/Object"), (0, u "<init>"), (0, u "()V"), (0, .class_ 10), (0, u "com/example/bytewright/bytewright/codec/ByteArrays"), (0, .long 2147483639), (8, u "MAX_LENGTH"), (0, u "I"), (4, u "ofLength"), (0, u "(J)[B")] 3

def k2m0 : Method := { name := "<init>", desc := "()V", sig := { parameters := [], returnType := none }, accessFlags := 2, code := none }
def k2c1 : Code := { maxStack := 4, maxLocals := 2, code := prog_9_method_2_code, exceptionTable := #[], attributes := #[] }
def k2m1 : Method := { name := "ofLength", desc := "(J)[B", sig := { parameters := [.long], returnType := some (.array .byte) }, accessFlags := 9, code := some k2c1 }
/-- com/example/bytewright/bytewright/codec/ByteArrays -/
def k2 : Class := { plain "com/example/bytewright/bytewright/codec/ByteArrays" (some 0) with
  accessFlags := 49
  interfaces := #[]
  cf := some (fileOf pool2 9 #[] #[{ accessFlags := 2, nameIndex := 7, descriptorIndex := 8, attributes := #[] }, { accessFlags := 9, nameIndex := 26, descriptorIndex := 27, attributes := #[] }] 49 4 #[] #[{ accessFlags := 26, nameIndex := 20, descriptorIndex := 21, attributes := #[] }])
  fields := #[{ name := "MAX_LENGTH", type := .int, accessFlags := 26, slot := 0, constantValue := 0 }]
  methods := #[k2m0, k2m1]
  instanceTypes := #[]
  staticTypes := #[.int]
  resolved := Array.replicate 31 none
  statics := none }

def pool3 : Array CpInfo := pool [(1, u "java/lang/Cloneable"), (0, .class_ 1), (0, u "java/lang/Object"), (0, .class_ 3)] 3

/-- java/lang/Cloneable -/
def k3 : Class := { plain "java/lang/Cloneable" (some 0) with
  accessFlags := 1537
  interfaces := #[]
  cf := some (fileOf pool3 2 #[] #[] 1537 4 #[] #[])
  fields := #[]
  methods := #[]
  instanceTypes := #[]
  staticTypes := #[]
  resolved := Array.replicate 8 none
  statics := none }

def pool4 : Array CpInfo := pool [(1, u "java/io/Serializable"), (0, .class_ 1), (0, u "java/lang/Object"), (0, .class_ 3)] 3

/-- java/io/Serializable -/
def k4 : Class := { plain "java/io/Serializable" (some 0) with
  accessFlags := 1537
  interfaces := #[]
  cf := some (fileOf pool4 2 #[] #[] 1537 4 #[] #[])
  fields := #[]
  methods := #[]
  instanceTypes := #[]
  staticTypes := #[]
  resolved := Array.replicate 8 none
  statics := none }

/-- the primitive byte -/
def k5 : Class := { plain "byte" none with kind := .primitive 'B', accessFlags := 0x411 }
/-- [B -/
def k6 : Class := { plain "[B" (some 0) with kind := .array 5 .byte, interfaces := #[3, 4], accessFlags := 1041 }

/-- the primitive int -/
def k7 : Class := { plain "int" none with kind := .primitive 'I', accessFlags := 0x411 }
/-- [I -/
def k8 : Class := { plain "[I" (some 0) with kind := .array 7 .int, interfaces := #[3, 4], accessFlags := 1041 }

def heap : Heap := #[]
def classes : Array Class := #[k0, k1, k2, k3, k4, k5, k6, k7, k8]
def interned : List (Array UInt16 × Addr) := []
def slotsUsed : Nat := 0
def theMethod : MethodId := ⟨1, 1⟩
def args0 : Array Value := #[.long 5, .int 5, .int 5]
def aboutOver (below : List Frame) : State where
  vm := { classes := classes, interned := interned.toArray }
  heap := heap
  slotsUsed := slotsUsed
  threads := #[{ frames := .invoking theMethod args0 :: below }]
def below0 : List Frame := [.native { method := ⟨0, 0⟩, args := #[] }]
def about1 : State := aboutOver below0
def p0 : Program := .bare "" "" ""
def e0 : Env := launch0.env 0 0 0
theorem w_frames : about1.frames = Frame.invoking theMethod args0 :: below0 := rfl
set_option maxRecDepth 65536 in
theorem w_args : argsFit about1.vm theMethod args0 = true := by decide +kernel
set_option maxRecDepth 65536 in
theorem w_heap : heapFits about1 = true := by decide +kernel
set_option maxRecDepth 65536 in
theorem w_runnable : about1.curStatus? = some .runnable := by decide +kernel
set_option maxRecDepth 65536 in
theorem w_alone : about1.alone = true := by decide +kernel
set_option maxRecDepth 65536 in
theorem w_named : about1.methodNamed? x = some theMethod := by decide +kernel
set_option maxRecDepth 65536 in
theorem w_hears : about1.hears theMethod below0 = true := by decide +kernel
set_option maxRecDepth 65536 in
theorem w_ripe : about1.ripe theMethod args0 below0 = true := by decide +kernel
theorem w_running : about1.status = .running := rfl
set_option maxRecDepth 65536 in
theorem w_room : about1.hasRoom e0.platform room_1 = true :=
  launch0.hasRoom_least _ room_1 (by decide +kernel) (by decide +kernel) (by decide +kernel) (by decide +kernel) (by decide +kernel) (by decide +kernel)
theorem allAtoms_all (ts : List Jvm.Cond) (a : Array Jvm.Value) (st : Jvm.State) : (allAtoms ts).before a st = ts.all (fun c => c.before a st) := by
  induction ts with
  | nil => rfl
  | cons c t ih =>
    show (Jvm.Cond.and c (allAtoms t)).before a st = _
    rw [Jvm.Cond.before_and, ih, List.all_cons]
def words1 : List Jvm.Cond := Jvm.Cond.code x code maxLocals ret :: tables_1
/-- a 'code' word, met by the world's own term for the bytes: nothing is compared byte by byte -/
theorem code_word {y : MethodName} {bytes : ByteArray} {mx : Nat} {rt : Option FieldType} {a : Array Value} {s : State} {m : MethodId} {meth : Method} {c : Code} (h1 : s.methodNamed? y = some m) (h2 : s.vm.method? m = some meth) (h3 : meth.code = some c) (h4 : c.code = bytes)
    (h5 : (c.maxLocals == mx && c.exceptionTable.isEmpty && decide (c.maxStack ≤ mostOperands) && decide (meth.sig.returnType = rt) && !meth.locks && decide (parseMethodDescriptor y.desc = some meth.sig)) = true) : (Jvm.Cond.code y bytes mx rt).before a s = true := by
  simp only [Bool.and_eq_true, beq_iff_eq, Bool.not_eq_true', decide_eq_true_eq] at h5
  obtain ⟨⟨⟨⟨⟨g1, g2⟩, g3⟩, g4⟩, g5⟩, g6⟩ := h5
  simp [Cond.before, Cond.holds, Cond.value, h1, h2, h3, h4, g1, g2, g3, g4, g5, g6]
def isCode : Jvm.Cond → Bool
  | .code _ _ _ _ => true
  | _ => false
theorem all_split {L : List Jvm.Cond} {P : Jvm.Cond → Bool} (h1 : L.all (fun c => isCode c || P c) = true) (h2 : ∀ c ∈ L.filter isCode, P c = true) : L.all P = true := by
  refine List.all_eq_true.mpr fun c hc => ?_
  have h := List.all_eq_true.mp h1 c hc
  rcases Bool.eq_false_or_eq_true (isCode c) with hi | hi
  · exact h2 c (List.mem_filter.mpr ⟨hc, hi⟩)
  · simpa [hi] using h
set_option maxRecDepth 65536 in
theorem w_c0 : (Jvm.Cond.code x code maxLocals ret).before args0 about1 = true := code_word (m := ⟨1, 1⟩) (meth := k1m1) (c := k1c1) (by decide +kernel) rfl rfl rfl (by decide +kernel)
set_option maxRecDepth 65536 in
theorem w_c1 : (Jvm.Cond.code ({ cls := "com/example/bytewright/bytewright/codec/ByteArrays", name := "ofLength", desc := "(J)[B" } : Jvm.MethodName) prog_9_method_2_code (2 : Nat) (Option.some (Jvm.ClassFile.FieldType.array Jvm.ClassFile.FieldType.byte))).before args0 about1 = true := code_word (m := ⟨2, 1⟩) (meth := k2m1) (c := k2c1) (by decide +kernel) rfl rfl rfl (by decide +kernel)
def codes1 : List Jvm.Cond := [Jvm.Cond.code x code maxLocals ret, Jvm.Cond.code ({ cls := "com/example/bytewright/bytewright/codec/ByteArrays", name := "ofLength", desc := "(J)[B" } : Jvm.MethodName) prog_9_method_2_code (2 : Nat) (Option.some (Jvm.ClassFile.FieldType.array Jvm.ClassFile.FieldType.byte))]
set_option maxRecDepth 65536 in
theorem codes_eq : words1.filter isCode = codes1 := rfl
theorem w_codes : ∀ c ∈ words1.filter isCode, c.before args0 about1 = true := by
  rw [codes_eq]
  intro c hc
  simp only [codes1, List.mem_cons, List.not_mem_nil, or_false] at hc
  rcases hc with rfl | rfl
  · exact w_c0
  · exact w_c1
set_option maxRecDepth 65536 in
theorem w_t1 : words1.all (fun c => isCode c || c.before args0 about1) = true := by decide +kernel
theorem w_tables : (allAtoms (Jvm.Cond.code x code maxLocals ret :: tables_1)).before args0 about1 = true := by
  rw [allAtoms_all]
  show words1.all (fun c => c.before args0 about1) = true
  refine all_split ?_ w_codes
  rw [w_t1]
set_option maxRecDepth 65536 in
theorem w_case : (Jvm.Cond.and given_1 narrow_1).before args0 about1 = true := by decide +kernel
theorem w_applies : (headSpec (Jvm.Cond.code x code maxLocals ret :: tables_1) room_1).applies x e0.platform about1 = true :=
  (Spec.applies_iff w_frames).mpr ⟨w_running, w_runnable, w_alone, w_named, w_hears, w_ripe, w_room, w_tables⟩
theorem atStart : AtStart classFile x code maxLocals ret World_1 tables_1 room_1 Calls_1 rest_1 Pre_1 launch0 p0 e0 about1 theMethod args0 below0 :=
  ⟨lists_1, trivial, launch0.admits_env _ _ _, launch0.least_env, fairChoices_fair.cas, fairChoices_fair.clock, w_frames, w_args, w_heap, w_applies, trivial, trivial, w_case⟩
end start1
theorem witness_1 : WitnessClaimed_1 := ⟨start1.p0, start1.e0, start1.about1, start1.theMethod, start1.args0, start1.below0, start1.atStart⟩
end Jvm.Pilot.@@N@@
