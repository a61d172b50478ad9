import JvmDerived
import JvmDerived.Pilot.@@N@@Statement
import JvmDerived.Pilot.@@N@@Code
set_option linter.unusedVariables false
set_option linter.unusedSimpArgs false
namespace Jvm.Pilot.@@N@@
open Jvm Jvm.ClassFile Sem Op Lib Jvm.Free Jvm.Stand Jvm.LawKit Jvm.RoadKit Bundle Jvm.Pilot.@@N@@.Jvm.D
def own_Go (tb : Tables) (e : Env) (below : List Frame) (P : State → Outcome → Prop) (T : State) (g : JFrame) : Prop := ∃ t o, Steps tb e below (T.setTop g) t ∧ P t o
theorem own_go {tb : Tables} {e : Env} {below : List Frame} {P : State → Outcome → Prop} {T T' : State} {g g' : JFrame} (k : ∀ target, Steps tb e below (T'.setTop g') target → Steps tb e below (T.setTop g) target) (h : own_Go tb e below P T' g') : own_Go tb e below P T g := by
  obtain ⟨t, o, a, b⟩ := h
  exact ⟨t, o, k t a, b⟩
theorem own_cast {P Q : Prop} (h : P = Q) (p : P) : Q := h ▸ p
def own_upd (f : Nat → Value) (k : Nat) (v : Value) : Nat → Value := fun i => if i = k then v else f i
/-- an array of length z at a, its element i being f i -/
def own_AV (Z : State) (h : Heap) (a : Addr) (ty : FieldType) (z : Int32) (f : Nat → Value) : Prop := ¬ z < 0 ∧ ∃ c : Cell, Arr Z h a c ty ∧ c.slots.size = z.toNatClampNeg ∧ ∀ i, i < c.slots.size → c.slots[i]? = some (f i)
section
variable {Z : State} {h h' : Heap} {a b : Addr} {ty : FieldType} {z j : Int32} {f : Nat → Value} {v w : Value} {sl k : Nat} {ws : List Addr} {cA : ClassId}
theorem own_AV.lt (F : own_AV Z h a ty z f) : a < h.size := by obtain ⟨_, c, A, -⟩ := F; exact A.lt
theorem own_AV.ext (F : own_AV Z h a ty z f) (E : Ext h h') : own_AV Z h' a ty z f := by obtain ⟨q, c, A, r⟩ := F; exact ⟨q, c, A.ext E, r⟩
theorem own_AV.other (F : own_AV Z h b ty z f) (W : Wr h h' a sl v) (q : b ≠ a) : own_AV Z h' b ty z f := by obtain ⟨q1, c, A, r⟩ := F; exact ⟨q1, c, A.other W q, r⟩
theorem own_AV.keep (F : own_AV Z h a ty z f) (K : Keep h h' ws) (q : a ∉ ws) : own_AV Z h' a ty z f := by obtain ⟨q1, c, A, r⟩ := F; exact ⟨q1, c, ⟨K.2.1 a c A.1 q, A.2⟩, r⟩
theorem own_AV.new (A : Arr Z h a (newA cA ty z) ty) (q : ¬ z < 0) : own_AV Z h a ty z (fun _ => defaultValue ty) :=
  ⟨q, _, A, sz_new _ _ _, fun i hi => by
    rw [sz_new] at hi
    simp [newA, hi]⟩
theorem own_AV.set (F : own_AV Z h a ty z f) (W : Wr h h' a j.toNatClampNeg v) (hk : j.toNatClampNeg = k) : own_AV Z h' a ty z (own_upd f k v) := by
  obtain ⟨q, c, A, s, t⟩ := F
  subst hk
  refine ⟨q, _, A.same W, by rw [sz_set]; exact s, fun i hi => ?_⟩
  rw [sz_set] at hi
  by_cases e : i = j.toNatClampNeg
  · subst e; simp [own_upd, Cell.setSlot, hi]
  · simp only [own_upd, if_neg e, Cell.setSlot]
    rw [Array.getElem?_setIfInBounds_ne (Ne.symm e)]; exact t i hi
theorem own_at {c : Cell} (t : ∀ i, i < c.slots.size → c.slots[i]? = some (f i)) (s : c.slots.size = z.toNatClampNeg) (hin : ¬ (j < 0 ∨ c.slots.size ≤ j.toNatClampNeg)) (hk : j.toNatClampNeg = k) (hv : f k = v) : c.slots[j.toNatClampNeg]? = some v := by
  rw [t _ (Nat.lt_of_not_le fun q => hin (Or.inr q)), hk, hv]
theorem own_sta_keep {C n d : String} (F : Sta Z h C n d w) (K : Keep h h' ws) (q : ∀ x ∈ ws, ∀ c : Cell, h[x]? = some c → c.vm.isStatics = false) : Sta Z h' C n d w := by
  obtain ⟨cf, i, k, f, st, cell, h1, h2, h3, h4, h5, h6, h7⟩ := F
  exact ⟨cf, i, k, f, st, cell, h1, h2, h3, h4, K.2.1 st cell h5 (fun m => by rw [q st m cell h5] at h6; cases h6), h6, h7⟩
theorem own_exa_plain {C : String} (F : Exa Z h a C) : ∀ c : Cell, h[a]? = some c → c.vm.isStatics = false := fun c hc => by
  obtain ⟨c1, k, h1, -, -, h4, -⟩ := F; cases h1.symm.trans hc; exact h4
theorem own_AV.plain (F : own_AV Z h a ty z f) : ∀ c : Cell, h[a]? = some c → c.vm.isStatics = false := fun c hc => by
  obtain ⟨_, c1, A, -⟩ := F; cases A.1.symm.trans hc; exact A.plain
end
theorem own_narb {x : Int32} (h : x = 0 ∨ x = 1) : nar .boolean x = x := by rcases h with rfl | rfl <;> rfl
theorem own_exa_ref {args : Array Value} {s : State} {t : Term} {C : String} (hx : (Jvm.Cond.exactly t C).value args s none s [] = some true) : ∃ a, t.eval args s none [] s = some (.ref a) ∧ Exa s s.heap a C := by
  obtain ⟨a', c', cell, k, e1, -⟩ := Cond.exactly_spec (Cond.before_iff.mpr hx)
  exact ⟨a', e1, Exa.start e1 hx⟩
theorem own_eq_int {args : Array Value} {s : State} {t : Term} {k : Int32} (h : (Jvm.Cond.eq t (Jvm.Term.int k)).value args s none s [] = some true) : t.eval args s none [] s = some (.int k) := by
  cases hv : t.eval args s none [] s with
  | none => simp [Cond.value, hv] at h
  | some v => cases v <;> simp [Cond.value, hv, Term.eval] at h <;> simp [h]
theorem own_fld_int {args : Array Value} {s : State} {t : Term} {C n d : String} {a : Addr} {k : Int32} (ev : t.eval args s none [] s = some (.ref a)) (h : (Jvm.Cond.eq (Jvm.Term.field t C n d) (Jvm.Term.int k)).value args s none s [] = some true) : Fld s s.heap a C n d (.int k) :=
  Fld.start ((fld_at ev).symm.trans (own_eq_int h))
theorem own_nar_c (x : Int32) : nar .char (x.toUInt32.toUInt16.toUInt32.toInt32) = x.toUInt32.toUInt16.toUInt32.toInt32 := Value.int.inj (Jvm.Free.XT.narrow_c x)
theorem own_nar_b (x : Int32) : nar .byte (x.toInt8.toInt32) = x.toInt8.toInt32 := Value.int.inj (Jvm.Free.XT.narrow_b x)
theorem own_NSroot {Z : State} {a0 : Array Value} {O K : String} {n : Nat} (w : (Jvm.Cond.noSuperclass O).before a0 Z = true) (wk : (Jvm.Cond.instantiable K n).before a0 Z = true) (hn : O ≠ K) : NS Z O K := by
  obtain ⟨c, k, h1, h2, h3, -, -⟩ := Cond.noSuperclass_spec w
  obtain ⟨t, kt, g1, -⟩ := Cond.instantiable_spec wk
  have ne := ids_ne h1 g1 hn
  refine ⟨c, t, h1, g1, fun fuel => ?_⟩
  cases fuel with
  | zero => rfl
  | succ f => simp [Vm.isSubclassAux, ne, h2, h3]
theorem own_NSno {Z : State} {a0 : Array Value} {C S K : String} {m : Nat} (w : (Jvm.Cond.superclass C S).before a0 Z = true) (wk : (Jvm.Cond.instantiable K m).before a0 Z = true) (n : NS Z C K) (hn : C ≠ K) : ∃ c t, Z.vm.findClass C = some c ∧ Z.vm.findClass K = some t ∧ Z.vm.assignable c t = false := by
  obtain ⟨c, t, h0, g0, n3⟩ := n
  obtain ⟨p, k, kp, h1, h2, h3, h4, h5, -, h7⟩ := Cond.superclass_spec h0 w
  obtain ⟨t', k', g1, g2, g5, g7, -⟩ := Cond.instantiable_spec wk
  cases g0.symm.trans g1
  have g8 : k'.isInterface = false := by
    cases hi : k'.isInterface <;> simp [hi] at g7 ⊢
  have ne := ids_ne h0 g0 hn
  refine ⟨c, t, h0, g0, ?_⟩
  show Z.vm.assignableAux (255 + 1) c t = false
  simp [Vm.assignableAux, ne, h2, g2, h5, g5, g8, Vm.isSubclass, n3]
theorem own_monoW {s t : State} {o : Outcome} {L : List Loc} {k n k' n' : Nat} (h : ReturnedEndW s o t L k n) (hk : k ≤ k') (hn : n ≤ n') : ReturnedEndW s o t L k' n' := ⟨h.1, h.2.1, h.2.2.1, h.2.2.2.mono hk hn⟩
theorem own_ldcSL {p : Program} {l : Launch} {e : Env} {R : Room} {s : State} {vm0 : Vm} {m : MethodId} {args : Array Value} {below : List Frame} {meth : Method} {c : Code} {T : State} {locs : List Loc} {cells slots : Nat} {Z : State} {a0 : Array Value} {h : Heap}
    (X : Stand p l e R (s.setVm vm0) m args below meth c T locs cells slots) (hx : p.tables.exec = Jvm.exec) (hZ : Z.Warmed39 vm0) {own text : String} {index : Nat} (hown : vm0.findClass own = some m.cls) (w : (Jvm.Cond.stringLink own index text).before a0 Z = true) (wS : ∀ a ∈ Bundle.stringAtoms, a.before a0 Z = true)
    (eT : T.heap = h) {k0 : Nat} (hS : s.Since vm0 k0) (hk : k0 ≤ h.size) {g : JFrame} (hg : g.method = m) (hd : decode c.code g.pc = .ok (.ldc index, 2)) {n : Nat} (hn : 4 * text.toList.length ≤ n) (hbig : n ≤ 536870912) (hc : cells + 2 ≤ R.cells) (hl : slots + (n + 4) ≤ R.slots) :
    ∃ (a : Addr) (T' : State) (h' : Heap) (k1 : Nat), Stand p l e R (s.setVm T'.vm) m args below meth c T' locs (cells + 2) (slots + (n + 4)) ∧ T'.heap = h' ∧ Ext h h' ∧ s.Since T'.vm k1 ∧ k1 ≤ h'.size ∧ Z.Warmed39 (s.setVm T'.vm).vm ∧ (s.setVm T'.vm).vm.findClass own = some m.cls ∧ Lit (s.setVm T'.vm) own index a ∧ (s.setVm vm0).Warmed39 T'.vm ∧
      ∀ target, Steps p.tables e below (T'.setTop { g with pc := g.pc + 2, stack := .ref a :: g.stack }) target → Steps p.tables e below (T.setTop g) target := by
  have wS' : ∀ d ∈ Bundle.stringAtoms, d.before args (s.setVm vm0) = true := fun d hd => by
    have q := wS d hd
    simp only [Bundle.stringAtoms, List.mem_cons, List.not_mem_nil, or_false] at hd
    rcases hd with rfl | rfl | rfl | rfl | rfl | rfl | rfl
    · exact mv (s := s.setVm vm0) hZ q
    · exact mv (s := s.setVm vm0) hZ q
    · exact mvA (s := s.setVm vm0) hZ q
    · exact mv (s := s.setVm vm0) hZ q
    · exact mv (s := s.setVm vm0) hZ q
    · exact mv (s := s.setVm vm0) hZ q
    · exact mv (s := s.setVm vm0) hZ q
  obtain ⟨a, T', X', hS', ⟨kk, hkk, hrr⟩, hb, -, st⟩ := X.ldcStringCold hx (own := own) hown (mvS hZ w) wS' hg hd hn hbig hc hl
  subst eT
  have hf : T'.vm.findClass own = some m.cls := by rw [hS'.1.alike.findClass]; exact hown
  exact ⟨a, T', _, _, X', rfl, ext_of hb, hS.trans hS' (Nat.le_trans hk (ext_of hb).1), Nat.le_refl _, State.Warmed39.trans (t := s.setVm vm0) hZ hS'.1, hf, by simp [Lit, State.resolvedAt?, hf, hkk, hrr], hS'.1, st⟩
theorem own_selfsel {Z s : State} {a0 args : Array Value} {y : MethodName} {n : Nat} (hZ : Z.Warmed39 s.vm) (wi : (Jvm.Cond.instantiable y.cls n).before a0 Z = true) (wm : (Jvm.Cond.instanceMethod y).before a0 Z = true) (wp : (Jvm.Cond.privateMethod y).before a0 Z = true) (hy : y.cls ≠ "java/lang/invoke/MethodHandle" ∧ y.cls ≠ "java/lang/invoke/VarHandle") : (Jvm.Cond.selects y.cls y y).before args s = true := by
  obtain ⟨c, k, h1, h2, -, h4, -⟩ := Cond.instantiable_spec (mvT (args := args) hZ wi)
  have g8 : k.isInterface = false := by
    cases hi : k.isInterface <;> simp [hi] at h4 ⊢
  exact selects_self_of_private h1 h2 g8 (Cond.privateMethod_at (mvP hZ wp (args := #[]))) (mvT hZ wm) hy

theorem own_pn0 : plainName "com/example/bytewright/bytewright/codec/Tag" = true := by first | (simp [plainName, overriddenIn]; done) | decide +kernel
theorem own_pn1 : plainName "com/example/bytewright/bytewright/codec/TagShortestFormPinLaw" = true := by first | (simp [plainName, overriddenIn]; done) | decide +kernel
theorem own_pd0 : parseMethodDescriptor "(J)I" = some ⟨[.long], some .int⟩ := by decide +kernel
theorem own_d1_0 : decode prog_14_method_3_code 0 = .ok (.lload_n 0, 1) := by decide +kernel
theorem own_d1_1 : decode prog_14_method_3_code 1 = .ok (.lload_n 0, 1) := by decide +kernel
theorem own_d1_2 : decode prog_14_method_3_code 2 = .ok (.l2i, 1) := by decide +kernel
theorem own_d1_3 : decode prog_14_method_3_code 3 = .ok (.i2b, 1) := by decide +kernel
theorem own_d1_4 : decode prog_14_method_3_code 4 = .ok (.i2l, 1) := by decide +kernel
theorem own_d1_5 : decode prog_14_method_3_code 5 = .ok (.lcmp, 1) := by decide +kernel
theorem own_d1_6 : decode prog_14_method_3_code 6 = .ok (.ifCond .ne 5, 3) := by decide +kernel
theorem own_d1_9 : decode prog_14_method_3_code 9 = .ok (.iconst 0, 1) := by decide +kernel
theorem own_d1_10 : decode prog_14_method_3_code 10 = .ok (.ireturn, 1) := by decide +kernel
theorem own_d1_11 : decode prog_14_method_3_code 11 = .ok (.lload_n 0, 1) := by decide +kernel
theorem own_d1_12 : decode prog_14_method_3_code 12 = .ok (.lload_n 0, 1) := by decide +kernel
theorem own_d1_13 : decode prog_14_method_3_code 13 = .ok (.l2i, 1) := by decide +kernel
theorem own_d1_14 : decode prog_14_method_3_code 14 = .ok (.i2s, 1) := by decide +kernel
theorem own_d1_15 : decode prog_14_method_3_code 15 = .ok (.i2l, 1) := by decide +kernel
theorem own_d1_16 : decode prog_14_method_3_code 16 = .ok (.lcmp, 1) := by decide +kernel
theorem own_d1_17 : decode prog_14_method_3_code 17 = .ok (.ifCond .ne 5, 3) := by decide +kernel
theorem own_d1_20 : decode prog_14_method_3_code 20 = .ok (.iconst 1, 1) := by decide +kernel
theorem own_d1_21 : decode prog_14_method_3_code 21 = .ok (.ireturn, 1) := by decide +kernel
theorem own_d1_22 : decode prog_14_method_3_code 22 = .ok (.lload_n 0, 1) := by decide +kernel
theorem own_d1_23 : decode prog_14_method_3_code 23 = .ok (.lload_n 0, 1) := by decide +kernel
theorem own_d1_24 : decode prog_14_method_3_code 24 = .ok (.l2i, 1) := by decide +kernel
theorem own_d1_25 : decode prog_14_method_3_code 25 = .ok (.i2l, 1) := by decide +kernel
theorem own_d1_26 : decode prog_14_method_3_code 26 = .ok (.lcmp, 1) := by decide +kernel
theorem own_d1_27 : decode prog_14_method_3_code 27 = .ok (.ifCond .ne 5, 3) := by decide +kernel
theorem own_d1_30 : decode prog_14_method_3_code 30 = .ok (.iconst 2, 1) := by decide +kernel
theorem own_d1_31 : decode prog_14_method_3_code 31 = .ok (.ireturn, 1) := by decide +kernel
theorem own_d1_32 : decode prog_14_method_3_code 32 = .ok (.iconst 3, 1) := by decide +kernel
theorem own_d1_33 : decode prog_14_method_3_code 33 = .ok (.ireturn, 1) := by decide +kernel
theorem own_ef_own_rm1 (m : MethodId) (x0 : Int64) : entryFrame m #[(.long x0)] 2 = mkF m 0 #[.val (.long x0), .second] [] := by first | (simp [entryFrame, mkF, argsToLocals, Value.category]; done) | rfl
def own_rm1_ret (q_1 : Int64) : Int32 := if q_1 = (((q_1.toInt32).toInt8.toInt32).toInt64) then (0 : Int32) else if q_1 = (((q_1.toInt32).toInt16.toInt32).toInt64) then (1 : Int32) else if q_1 = ((q_1.toInt32).toInt64) then (2 : Int32) else (3 : Int32)
def own_Q1 (Z : State) (q_1 : Int64) (h0 : Heap) (n0 : Nat) (v : Option Value) (h : Heap) (L : List Loc) : Prop := ∃ (r_ : Int32), v = some (.int r_) ∧ Fr n0 L ∧ r_ = (own_rm1_ret q_1) ∧ h = h0
set_option maxRecDepth 65536 in
set_option maxHeartbeats 40000000 in
theorem own_rm1 (l : Launch) (Z : State) (a0 : Array Value) (hw : ∀ d ∈ tables_1, d.before a0 Z = true) (ws : List Jvm.Cond) (q_1 : Int64) (h0 : Heap) (n0 : Nat) (Z0 : n0 ≤ h0.size) :
    MetFree l (⟨"com/example/bytewright/bytewright/codec/Tag", "shortestForm", "(J)I"⟩ : MethodName) (head1 (Jvm.Cond.code (⟨"com/example/bytewright/bytewright/codec/Tag", "shortestForm", "(J)I"⟩ : MethodName) prog_14_method_3_code 2 (some .int) :: ws) ({ frames := 0, cells := 0, slots := 0, locals := 0 } : Room)) (fun a U => a = #[(.long q_1)] ∧ Z.Warmed39 U.vm ∧ U.heap = h0) (fun _ _ _ _ _ => True) (fun _ U o U' => ∃ v L, o = .returned v ∧ own_Q1 Z q_1 h0 n0 v U'.heap L ∧ FrameEnd U o U' L ({ frames := 0, cells := 0, slots := 0, locals := 0 } : Room).cells ({ frames := 0, cells := 0, slots := 0, locals := 0 } : Room).slots) := by
  refine MetFree.of_bodySF (plainFor_of_name own_pn0) hisR ?_
  intro p e s m args below meth c s₁ Bd hml0 hP hK
  obtain ⟨rfl, hZ, hh⟩ := hP
  have hx := Bd.exec
  have hby := Bd.bytes
  have hml : c.maxLocals = 2 := hml0
  have hown : s.vm.findClass "com/example/bytewright/bytewright/codec/Tag" = some m.cls := findClass_of_methodNamed Bd.named
  have hnm := (name_of_methodNamed Bd.named Bd.method).1
  have X0 : Stand p l e ({ frames := 0, cells := 0, slots := 0, locals := 0 } : Room) s m #[(.long q_1)] below meth c s₁ [] 0 0 := Stand.of_body Bd
  have e0 : s₁.heap = h0 := by rw [← hh, Bd.state]; rfl
  have N0 := Fr.nil n0
  have z0 : n0 ≤ h0.size := Z0
  show own_Go p.tables e below (fun t o => t.status = .running ∧ Ended t below o ∧ ∃ v L, o = .returned v ∧ own_Q1 Z q_1 h0 n0 v t.heap L ∧ FrameEnd s o t L ({ frames := 0, cells := 0, slots := 0, locals := 0 } : Room).cells ({ frames := 0, cells := 0, slots := 0, locals := 0 } : Room).slots) s₁ (entryFrame m #[(.long q_1)] 2)
  rw [own_ef_own_rm1 m q_1]
  show own_Go _ _ _ _ s₁ (mkF m 0 #[.val (.long q_1), .second] [])
  refine own_go (fun _ k => XS.lloadN X0.here hx rfl (hb hby own_d1_0) rfl k) ?_
  show own_Go _ _ _ _ s₁ (mkF m 1 #[.val (.long q_1), .second] [(.long q_1)])
  refine own_go (fun _ k => XS.lloadN X0.here hx rfl (hb hby own_d1_1) rfl k) ?_
  show own_Go _ _ _ _ s₁ (mkF m 2 #[.val (.long q_1), .second] [(.long q_1), (.long q_1)])
  refine own_go (fun _ k => XS.l2i X0.here hx rfl (hb hby own_d1_2) rfl k) ?_
  show own_Go _ _ _ _ s₁ (mkF m 3 #[.val (.long q_1), .second] [(.int (q_1.toInt32)), (.long q_1)])
  refine own_go (fun _ k => XS.i2b X0.here hx rfl (hb hby own_d1_3) rfl k) ?_
  show own_Go _ _ _ _ s₁ (mkF m 4 #[.val (.long q_1), .second] [(.int ((q_1.toInt32).toInt8.toInt32)), (.long q_1)])
  refine own_go (fun _ k => XS.i2l X0.here hx rfl (hb hby own_d1_4) rfl k) ?_
  show own_Go _ _ _ _ s₁ (mkF m 5 #[.val (.long q_1), .second] [(.long (((q_1.toInt32).toInt8.toInt32).toInt64)), (.long q_1)])
  refine own_go (fun _ k => XS.lcmp X0.here hx rfl (hb hby own_d1_5) rfl k) ?_
  show own_Go _ _ _ _ s₁ (mkF m 6 #[.val (.long q_1), .second] [(.int (lcmpW q_1 (((q_1.toInt32).toInt8.toInt32).toInt64)))])
  by_cases hc1 : q_1 = (((q_1.toInt32).toInt8.toInt32).toInt64)
  · refine own_go (fun _ k => XS.ifNo X0.here hx rfl (hb hby own_d1_6) rfl (Jvm.Free.XT.ll_ne_f hc1) k) ?_
    show own_Go _ _ _ _ s₁ (mkF m 9 #[.val (.long q_1), .second] [])
    refine own_go (fun _ k => XS.iconst X0.here hx rfl (hb hby own_d1_9) k) ?_
    show own_Go _ _ _ _ s₁ (mkF m 10 #[.val (.long q_1), .second] [(.int (0 : Int32))])
    obtain ⟨fs, hr, hrun, hended, hW, hsame⟩ := X0.leave (v := some (.int (0 : Int32))) (fun h => by rw [Bd.returns] at h; cases h)
    refine ⟨_, _, retOut X0 hx Bd.returns rfl (Or.inl ⟨rfl, Or.inl rfl, _, rfl⟩) (hb hby own_d1_10) hr, hrun, hended, _, _, rfl, ?_, ⟨_, rfl⟩, hW, hsame.mono (by decide) (by decide)⟩
    show own_Q1 Z q_1 h0 n0 _ s₁.heap _
    rw [e0]
    exact ⟨_, rfl, N0, (by subst_vars; first | rfl | simp only [own_rm1_ret, if_pos hc1]), rfl⟩
  · refine own_go (fun _ k => XS.ifYes X0.here hx rfl (pc0 := 6) (pc' := 11) rfl (hb hby own_d1_6) rfl (Jvm.Free.XT.ll_ne_t hc1) (by decide) (by decide) k) ?_
    show own_Go _ _ _ _ s₁ (mkF m 11 #[.val (.long q_1), .second] [])
    refine own_go (fun _ k => XS.lloadN X0.here hx rfl (hb hby own_d1_11) rfl k) ?_
    show own_Go _ _ _ _ s₁ (mkF m 12 #[.val (.long q_1), .second] [(.long q_1)])
    refine own_go (fun _ k => XS.lloadN X0.here hx rfl (hb hby own_d1_12) rfl k) ?_
    show own_Go _ _ _ _ s₁ (mkF m 13 #[.val (.long q_1), .second] [(.long q_1), (.long q_1)])
    refine own_go (fun _ k => XS.l2i X0.here hx rfl (hb hby own_d1_13) rfl k) ?_
    show own_Go _ _ _ _ s₁ (mkF m 14 #[.val (.long q_1), .second] [(.int (q_1.toInt32)), (.long q_1)])
    refine own_go (fun _ k => XS.i2s X0.here hx rfl (hb hby own_d1_14) rfl k) ?_
    show own_Go _ _ _ _ s₁ (mkF m 15 #[.val (.long q_1), .second] [(.int ((q_1.toInt32).toInt16.toInt32)), (.long q_1)])
    refine own_go (fun _ k => XS.i2l X0.here hx rfl (hb hby own_d1_15) rfl k) ?_
    show own_Go _ _ _ _ s₁ (mkF m 16 #[.val (.long q_1), .second] [(.long (((q_1.toInt32).toInt16.toInt32).toInt64)), (.long q_1)])
    refine own_go (fun _ k => XS.lcmp X0.here hx rfl (hb hby own_d1_16) rfl k) ?_
    show own_Go _ _ _ _ s₁ (mkF m 17 #[.val (.long q_1), .second] [(.int (lcmpW q_1 (((q_1.toInt32).toInt16.toInt32).toInt64)))])
    by_cases hc3 : q_1 = (((q_1.toInt32).toInt16.toInt32).toInt64)
    · refine own_go (fun _ k => XS.ifNo X0.here hx rfl (hb hby own_d1_17) rfl (Jvm.Free.XT.ll_ne_f hc3) k) ?_
      show own_Go _ _ _ _ s₁ (mkF m 20 #[.val (.long q_1), .second] [])
      refine own_go (fun _ k => XS.iconst X0.here hx rfl (hb hby own_d1_20) k) ?_
      show own_Go _ _ _ _ s₁ (mkF m 21 #[.val (.long q_1), .second] [(.int (1 : Int32))])
      obtain ⟨fs, hr, hrun, hended, hW, hsame⟩ := X0.leave (v := some (.int (1 : Int32))) (fun h => by rw [Bd.returns] at h; cases h)
      refine ⟨_, _, retOut X0 hx Bd.returns rfl (Or.inl ⟨rfl, Or.inl rfl, _, rfl⟩) (hb hby own_d1_21) hr, hrun, hended, _, _, rfl, ?_, ⟨_, rfl⟩, hW, hsame.mono (by decide) (by decide)⟩
      show own_Q1 Z q_1 h0 n0 _ s₁.heap _
      rw [e0]
      exact ⟨_, rfl, N0, (by subst_vars; first | rfl | simp only [own_rm1_ret, if_neg hc1, if_pos hc3]), rfl⟩
    · refine own_go (fun _ k => XS.ifYes X0.here hx rfl (pc0 := 17) (pc' := 22) rfl (hb hby own_d1_17) rfl (Jvm.Free.XT.ll_ne_t hc3) (by decide) (by decide) k) ?_
      show own_Go _ _ _ _ s₁ (mkF m 22 #[.val (.long q_1), .second] [])
      refine own_go (fun _ k => XS.lloadN X0.here hx rfl (hb hby own_d1_22) rfl k) ?_
      show own_Go _ _ _ _ s₁ (mkF m 23 #[.val (.long q_1), .second] [(.long q_1)])
      refine own_go (fun _ k => XS.lloadN X0.here hx rfl (hb hby own_d1_23) rfl k) ?_
      show own_Go _ _ _ _ s₁ (mkF m 24 #[.val (.long q_1), .second] [(.long q_1), (.long q_1)])
      refine own_go (fun _ k => XS.l2i X0.here hx rfl (hb hby own_d1_24) rfl k) ?_
      show own_Go _ _ _ _ s₁ (mkF m 25 #[.val (.long q_1), .second] [(.int (q_1.toInt32)), (.long q_1)])
      refine own_go (fun _ k => XS.i2l X0.here hx rfl (hb hby own_d1_25) rfl k) ?_
      show own_Go _ _ _ _ s₁ (mkF m 26 #[.val (.long q_1), .second] [(.long ((q_1.toInt32).toInt64)), (.long q_1)])
      refine own_go (fun _ k => XS.lcmp X0.here hx rfl (hb hby own_d1_26) rfl k) ?_
      show own_Go _ _ _ _ s₁ (mkF m 27 #[.val (.long q_1), .second] [(.int (lcmpW q_1 ((q_1.toInt32).toInt64)))])
      by_cases hc5 : q_1 = ((q_1.toInt32).toInt64)
      · refine own_go (fun _ k => XS.ifNo X0.here hx rfl (hb hby own_d1_27) rfl (Jvm.Free.XT.ll_ne_f hc5) k) ?_
        show own_Go _ _ _ _ s₁ (mkF m 30 #[.val (.long q_1), .second] [])
        refine own_go (fun _ k => XS.iconst X0.here hx rfl (hb hby own_d1_30) k) ?_
        show own_Go _ _ _ _ s₁ (mkF m 31 #[.val (.long q_1), .second] [(.int (2 : Int32))])
        obtain ⟨fs, hr, hrun, hended, hW, hsame⟩ := X0.leave (v := some (.int (2 : Int32))) (fun h => by rw [Bd.returns] at h; cases h)
        refine ⟨_, _, retOut X0 hx Bd.returns rfl (Or.inl ⟨rfl, Or.inl rfl, _, rfl⟩) (hb hby own_d1_31) hr, hrun, hended, _, _, rfl, ?_, ⟨_, rfl⟩, hW, hsame.mono (by decide) (by decide)⟩
        show own_Q1 Z q_1 h0 n0 _ s₁.heap _
        rw [e0]
        exact ⟨_, rfl, N0, (by subst_vars; first | rfl | simp only [own_rm1_ret, if_neg hc1, if_neg hc3, if_pos hc5]), rfl⟩
      · refine own_go (fun _ k => XS.ifYes X0.here hx rfl (pc0 := 27) (pc' := 32) rfl (hb hby own_d1_27) rfl (Jvm.Free.XT.ll_ne_t hc5) (by decide) (by decide) k) ?_
        show own_Go _ _ _ _ s₁ (mkF m 32 #[.val (.long q_1), .second] [])
        refine own_go (fun _ k => XS.iconst X0.here hx rfl (hb hby own_d1_32) k) ?_
        show own_Go _ _ _ _ s₁ (mkF m 33 #[.val (.long q_1), .second] [(.int (3 : Int32))])
        obtain ⟨fs, hr, hrun, hended, hW, hsame⟩ := X0.leave (v := some (.int (3 : Int32))) (fun h => by rw [Bd.returns] at h; cases h)
        refine ⟨_, _, retOut X0 hx Bd.returns rfl (Or.inl ⟨rfl, Or.inl rfl, _, rfl⟩) (hb hby own_d1_33) hr, hrun, hended, _, _, rfl, ?_, ⟨_, rfl⟩, hW, hsame.mono (by decide) (by decide)⟩
        show own_Q1 Z q_1 h0 n0 _ s₁.heap _
        rw [e0]
        exact ⟨_, rfl, N0, (by subst_vars; first | rfl | simp only [own_rm1_ret, if_neg hc1, if_neg hc3, if_neg hc5]), rfl⟩
theorem own_d2_0 : decode method_2_code 0 = .ok (.lload_n 0, 1) := by decide +kernel
theorem own_d2_1 : decode method_2_code 1 = .ok (.ldc2_w 7, 3) := by decide +kernel
theorem own_d2_4 : decode method_2_code 4 = .ok (.lcmp, 1) := by decide +kernel
theorem own_d2_5 : decode method_2_code 5 = .ok (.ifCond .lt 13, 3) := by decide +kernel
theorem own_d2_8 : decode method_2_code 8 = .ok (.lload_n 0, 1) := by decide +kernel
theorem own_d2_9 : decode method_2_code 9 = .ok (.ldc2_w 9, 3) := by decide +kernel
theorem own_d2_12 : decode method_2_code 12 = .ok (.lcmp, 1) := by decide +kernel
theorem own_d2_13 : decode method_2_code 13 = .ok (.ifCond .gt 5, 3) := by decide +kernel
theorem own_d2_16 : decode method_2_code 16 = .ok (.iconst 0, 1) := by decide +kernel
theorem own_d2_17 : decode method_2_code 17 = .ok (.ireturn, 1) := by decide +kernel
theorem own_d2_18 : decode method_2_code 18 = .ok (.lload_n 0, 1) := by decide +kernel
theorem own_d2_19 : decode method_2_code 19 = .ok (.ldc2_w 11, 3) := by decide +kernel
theorem own_d2_22 : decode method_2_code 22 = .ok (.lcmp, 1) := by decide +kernel
theorem own_d2_23 : decode method_2_code 23 = .ok (.ifCond .lt 13, 3) := by decide +kernel
theorem own_d2_26 : decode method_2_code 26 = .ok (.lload_n 0, 1) := by decide +kernel
theorem own_d2_27 : decode method_2_code 27 = .ok (.ldc2_w 13, 3) := by decide +kernel
theorem own_d2_30 : decode method_2_code 30 = .ok (.lcmp, 1) := by decide +kernel
theorem own_d2_31 : decode method_2_code 31 = .ok (.ifCond .gt 5, 3) := by decide +kernel
theorem own_d2_34 : decode method_2_code 34 = .ok (.iconst 1, 1) := by decide +kernel
theorem own_d2_35 : decode method_2_code 35 = .ok (.ireturn, 1) := by decide +kernel
theorem own_d2_36 : decode method_2_code 36 = .ok (.lload_n 0, 1) := by decide +kernel
theorem own_d2_37 : decode method_2_code 37 = .ok (.ldc2_w 15, 3) := by decide +kernel
theorem own_d2_40 : decode method_2_code 40 = .ok (.lcmp, 1) := by decide +kernel
theorem own_d2_41 : decode method_2_code 41 = .ok (.ifCond .lt 13, 3) := by decide +kernel
theorem own_d2_44 : decode method_2_code 44 = .ok (.lload_n 0, 1) := by decide +kernel
theorem own_d2_45 : decode method_2_code 45 = .ok (.ldc2_w 17, 3) := by decide +kernel
theorem own_d2_48 : decode method_2_code 48 = .ok (.lcmp, 1) := by decide +kernel
theorem own_d2_49 : decode method_2_code 49 = .ok (.ifCond .gt 5, 3) := by decide +kernel
theorem own_d2_52 : decode method_2_code 52 = .ok (.iconst 2, 1) := by decide +kernel
theorem own_d2_53 : decode method_2_code 53 = .ok (.ireturn, 1) := by decide +kernel
theorem own_d2_54 : decode method_2_code 54 = .ok (.iconst 3, 1) := by decide +kernel
theorem own_d2_55 : decode method_2_code 55 = .ok (.ireturn, 1) := by decide +kernel
theorem own_ef_own_rm2 (m : MethodId) (x0 : Int64) : entryFrame m #[(.long x0)] 2 = mkF m 0 #[.val (.long x0), .second] [] := by first | (simp [entryFrame, mkF, argsToLocals, Value.category]; done) | rfl
def own_rm2_ret (q_1 : Int64) : Int32 := if q_1 < (-128 : Int64) then (if q_1 < (-32768 : Int64) then (if q_1 < (-2147483648 : Int64) then (3 : Int32) else if (2147483647 : Int64) < q_1 then (3 : Int32) else (2 : Int32)) else if (32767 : Int64) < q_1 then (if q_1 < (-2147483648 : Int64) then (3 : Int32) else if (2147483647 : Int64) < q_1 then (3 : Int32) else (2 : Int32)) else (1 : Int32)) else if (127 : Int64) < q_1 then (if q_1 < (-32768 : Int64) then (if q_1 < (-2147483648 : Int64) then (3 : Int32) else if (2147483647 : Int64) < q_1 then (3 : Int32) else (2 : Int32)) else if (32767 : Int64) < q_1 then (if q_1 < (-2147483648 : Int64) then (3 : Int32) else if (2147483647 : Int64) < q_1 then (3 : Int32) else (2 : Int32)) else (1 : Int32)) else (0 : Int32)
def own_Q2 (Z : State) (q_1 : Int64) (h0 : Heap) (n0 : Nat) (v : Option Value) (h : Heap) (L : List Loc) : Prop := ∃ (r_ : Int32), v = some (.int r_) ∧ Fr n0 L ∧ r_ = (own_rm2_ret q_1) ∧ h = h0
set_option maxRecDepth 65536 in
set_option maxHeartbeats 40000000 in
theorem own_rm2 (l : Launch) (Z : State) (a0 : Array Value) (hw : ∀ d ∈ tables_1, d.before a0 Z = true) (ws : List Jvm.Cond) (q_1 : Int64) (h0 : Heap) (n0 : Nat) (Z0 : n0 ≤ h0.size) :
    MetFree l (⟨"com/example/bytewright/bytewright/codec/TagShortestFormPinLaw", "expected", "(J)I"⟩ : MethodName) (head1 (Jvm.Cond.code (⟨"com/example/bytewright/bytewright/codec/TagShortestFormPinLaw", "expected", "(J)I"⟩ : MethodName) method_2_code 2 (some .int) :: ws) ({ frames := 0, cells := 0, slots := 0, locals := 0 } : Room)) (fun a U => a = #[(.long q_1)] ∧ Z.Warmed39 U.vm ∧ U.heap = h0) (fun _ _ _ _ _ => True) (fun _ U o U' => ∃ v L, o = .returned v ∧ own_Q2 Z q_1 h0 n0 v U'.heap L ∧ FrameEnd U o U' L ({ frames := 0, cells := 0, slots := 0, locals := 0 } : Room).cells ({ frames := 0, cells := 0, slots := 0, locals := 0 } : Room).slots) := by
  refine MetFree.of_bodySF (plainFor_of_name own_pn1) hisR ?_
  intro p e s m args below meth c s₁ Bd hml0 hP hK
  obtain ⟨rfl, hZ, hh⟩ := hP
  have hx := Bd.exec
  have hby := Bd.bytes
  have hml : c.maxLocals = 2 := hml0
  have hown : s.vm.findClass "com/example/bytewright/bytewright/codec/TagShortestFormPinLaw" = some m.cls := findClass_of_methodNamed Bd.named
  have hnm := (name_of_methodNamed Bd.named Bd.method).1
  have X0 : Stand p l e ({ frames := 0, cells := 0, slots := 0, locals := 0 } : Room) s m #[(.long q_1)] below meth c s₁ [] 0 0 := Stand.of_body Bd
  have e0 : s₁.heap = h0 := by rw [← hh, Bd.state]; rfl
  have N0 := Fr.nil n0
  have z0 : n0 ≤ h0.size := Z0
  show own_Go p.tables e below (fun t o => t.status = .running ∧ Ended t below o ∧ ∃ v L, o = .returned v ∧ own_Q2 Z q_1 h0 n0 v t.heap L ∧ FrameEnd s o t L ({ frames := 0, cells := 0, slots := 0, locals := 0 } : Room).cells ({ frames := 0, cells := 0, slots := 0, locals := 0 } : Room).slots) s₁ (entryFrame m #[(.long q_1)] 2)
  rw [own_ef_own_rm2 m q_1]
  show own_Go _ _ _ _ s₁ (mkF m 0 #[.val (.long q_1), .second] [])
  refine own_go (fun _ k => XS.lloadN X0.here hx rfl (hb hby own_d2_0) rfl k) ?_
  show own_Go _ _ _ _ s₁ (mkF m 1 #[.val (.long q_1), .second] [(.long q_1)])
  refine own_go (fun _ k => X0.ldc2Long hx hown (mvT hZ (hw _ (List.mem_of_getElem? (i := 8) rfl))) (g := (mkF m 1 #[.val (.long q_1), .second] [(.long q_1)])) rfl (hb hby own_d2_1) _ k) ?_
  show own_Go _ _ _ _ s₁ (mkF m 4 #[.val (.long q_1), .second] [(.long (-128 : Int64)), (.long q_1)])
  refine own_go (fun _ k => XS.lcmp X0.here hx rfl (hb hby own_d2_4) rfl k) ?_
  show own_Go _ _ _ _ s₁ (mkF m 5 #[.val (.long q_1), .second] [(.int (lcmpW q_1 (-128 : Int64)))])
  by_cases hc1 : q_1 < (-128 : Int64)
  · refine own_go (fun _ k => XS.ifYes X0.here hx rfl (pc0 := 5) (pc' := 18) rfl (hb hby own_d2_5) rfl (Jvm.Free.XT.ll_lt_t hc1) (by decide) (by decide) k) ?_
    show own_Go _ _ _ _ s₁ (mkF m 18 #[.val (.long q_1), .second] [])
    refine own_go (fun _ k => XS.lloadN X0.here hx rfl (hb hby own_d2_18) rfl k) ?_
    show own_Go _ _ _ _ s₁ (mkF m 19 #[.val (.long q_1), .second] [(.long q_1)])
    refine own_go (fun _ k => X0.ldc2Long hx hown (mvT hZ (hw _ (List.mem_of_getElem? (i := 10) rfl))) (g := (mkF m 19 #[.val (.long q_1), .second] [(.long q_1)])) rfl (hb hby own_d2_19) _ k) ?_
    show own_Go _ _ _ _ s₁ (mkF m 22 #[.val (.long q_1), .second] [(.long (-32768 : Int64)), (.long q_1)])
    refine own_go (fun _ k => XS.lcmp X0.here hx rfl (hb hby own_d2_22) rfl k) ?_
    show own_Go _ _ _ _ s₁ (mkF m 23 #[.val (.long q_1), .second] [(.int (lcmpW q_1 (-32768 : Int64)))])
    by_cases hc2 : q_1 < (-32768 : Int64)
    · refine own_go (fun _ k => XS.ifYes X0.here hx rfl (pc0 := 23) (pc' := 36) rfl (hb hby own_d2_23) rfl (Jvm.Free.XT.ll_lt_t hc2) (by decide) (by decide) k) ?_
      show own_Go _ _ _ _ s₁ (mkF m 36 #[.val (.long q_1), .second] [])
      refine own_go (fun _ k => XS.lloadN X0.here hx rfl (hb hby own_d2_36) rfl k) ?_
      show own_Go _ _ _ _ s₁ (mkF m 37 #[.val (.long q_1), .second] [(.long q_1)])
      refine own_go (fun _ k => X0.ldc2Long hx hown (mvT hZ (hw _ (List.mem_of_getElem? (i := 11) rfl))) (g := (mkF m 37 #[.val (.long q_1), .second] [(.long q_1)])) rfl (hb hby own_d2_37) _ k) ?_
      show own_Go _ _ _ _ s₁ (mkF m 40 #[.val (.long q_1), .second] [(.long (-2147483648 : Int64)), (.long q_1)])
      refine own_go (fun _ k => XS.lcmp X0.here hx rfl (hb hby own_d2_40) rfl k) ?_
      show own_Go _ _ _ _ s₁ (mkF m 41 #[.val (.long q_1), .second] [(.int (lcmpW q_1 (-2147483648 : Int64)))])
      by_cases hc3 : q_1 < (-2147483648 : Int64)
      · refine own_go (fun _ k => XS.ifYes X0.here hx rfl (pc0 := 41) (pc' := 54) rfl (hb hby own_d2_41) rfl (Jvm.Free.XT.ll_lt_t hc3) (by decide) (by decide) k) ?_
        show own_Go _ _ _ _ s₁ (mkF m 54 #[.val (.long q_1), .second] [])
        refine own_go (fun _ k => XS.iconst X0.here hx rfl (hb hby own_d2_54) k) ?_
        show own_Go _ _ _ _ s₁ (mkF m 55 #[.val (.long q_1), .second] [(.int (3 : Int32))])
        obtain ⟨fs, hr, hrun, hended, hW, hsame⟩ := X0.leave (v := some (.int (3 : Int32))) (fun h => by rw [Bd.returns] at h; cases h)
        refine ⟨_, _, retOut X0 hx Bd.returns rfl (Or.inl ⟨rfl, Or.inl rfl, _, rfl⟩) (hb hby own_d2_55) hr, hrun, hended, _, _, rfl, ?_, ⟨_, rfl⟩, hW, hsame.mono (by decide) (by decide)⟩
        show own_Q2 Z q_1 h0 n0 _ s₁.heap _
        rw [e0]
        exact ⟨_, rfl, N0, (by subst_vars; first | rfl | simp only [own_rm2_ret, if_pos hc1, if_pos hc2, if_pos hc3]), rfl⟩
      · refine own_go (fun _ k => XS.ifNo X0.here hx rfl (hb hby own_d2_41) rfl (Jvm.Free.XT.ll_lt_f hc3) k) ?_
        show own_Go _ _ _ _ s₁ (mkF m 44 #[.val (.long q_1), .second] [])
        refine own_go (fun _ k => XS.lloadN X0.here hx rfl (hb hby own_d2_44) rfl k) ?_
        show own_Go _ _ _ _ s₁ (mkF m 45 #[.val (.long q_1), .second] [(.long q_1)])
        refine own_go (fun _ k => X0.ldc2Long hx hown (mvT hZ (hw _ (List.mem_of_getElem? (i := 12) rfl))) (g := (mkF m 45 #[.val (.long q_1), .second] [(.long q_1)])) rfl (hb hby own_d2_45) _ k) ?_
        show own_Go _ _ _ _ s₁ (mkF m 48 #[.val (.long q_1), .second] [(.long (2147483647 : Int64)), (.long q_1)])
        refine own_go (fun _ k => XS.lcmp X0.here hx rfl (hb hby own_d2_48) rfl k) ?_
        show own_Go _ _ _ _ s₁ (mkF m 49 #[.val (.long q_1), .second] [(.int (lcmpW q_1 (2147483647 : Int64)))])
        by_cases hc5 : (2147483647 : Int64) < q_1
        · refine own_go (fun _ k => XS.ifYes X0.here hx rfl (pc0 := 49) (pc' := 54) rfl (hb hby own_d2_49) rfl (Jvm.Free.XT.ll_gt_t hc5) (by decide) (by decide) k) ?_
          show own_Go _ _ _ _ s₁ (mkF m 54 #[.val (.long q_1), .second] [])
          refine own_go (fun _ k => XS.iconst X0.here hx rfl (hb hby own_d2_54) k) ?_
          show own_Go _ _ _ _ s₁ (mkF m 55 #[.val (.long q_1), .second] [(.int (3 : Int32))])
          obtain ⟨fs, hr, hrun, hended, hW, hsame⟩ := X0.leave (v := some (.int (3 : Int32))) (fun h => by rw [Bd.returns] at h; cases h)
          refine ⟨_, _, retOut X0 hx Bd.returns rfl (Or.inl ⟨rfl, Or.inl rfl, _, rfl⟩) (hb hby own_d2_55) hr, hrun, hended, _, _, rfl, ?_, ⟨_, rfl⟩, hW, hsame.mono (by decide) (by decide)⟩
          show own_Q2 Z q_1 h0 n0 _ s₁.heap _
          rw [e0]
          exact ⟨_, rfl, N0, (by subst_vars; first | rfl | simp only [own_rm2_ret, if_pos hc1, if_pos hc2, if_neg hc3, if_pos hc5]), rfl⟩
        · refine own_go (fun _ k => XS.ifNo X0.here hx rfl (hb hby own_d2_49) rfl (Jvm.Free.XT.ll_gt_f hc5) k) ?_
          show own_Go _ _ _ _ s₁ (mkF m 52 #[.val (.long q_1), .second] [])
          refine own_go (fun _ k => XS.iconst X0.here hx rfl (hb hby own_d2_52) k) ?_
          show own_Go _ _ _ _ s₁ (mkF m 53 #[.val (.long q_1), .second] [(.int (2 : Int32))])
          obtain ⟨fs, hr, hrun, hended, hW, hsame⟩ := X0.leave (v := some (.int (2 : Int32))) (fun h => by rw [Bd.returns] at h; cases h)
          refine ⟨_, _, retOut X0 hx Bd.returns rfl (Or.inl ⟨rfl, Or.inl rfl, _, rfl⟩) (hb hby own_d2_53) hr, hrun, hended, _, _, rfl, ?_, ⟨_, rfl⟩, hW, hsame.mono (by decide) (by decide)⟩
          show own_Q2 Z q_1 h0 n0 _ s₁.heap _
          rw [e0]
          exact ⟨_, rfl, N0, (by subst_vars; first | rfl | simp only [own_rm2_ret, if_pos hc1, if_pos hc2, if_neg hc3, if_neg hc5]), rfl⟩
    · refine own_go (fun _ k => XS.ifNo X0.here hx rfl (hb hby own_d2_23) rfl (Jvm.Free.XT.ll_lt_f hc2) k) ?_
      show own_Go _ _ _ _ s₁ (mkF m 26 #[.val (.long q_1), .second] [])
      refine own_go (fun _ k => XS.lloadN X0.here hx rfl (hb hby own_d2_26) rfl k) ?_
      show own_Go _ _ _ _ s₁ (mkF m 27 #[.val (.long q_1), .second] [(.long q_1)])
      refine own_go (fun _ k => X0.ldc2Long hx hown (mvT hZ (hw _ (List.mem_of_getElem? (i := 13) rfl))) (g := (mkF m 27 #[.val (.long q_1), .second] [(.long q_1)])) rfl (hb hby own_d2_27) _ k) ?_
      show own_Go _ _ _ _ s₁ (mkF m 30 #[.val (.long q_1), .second] [(.long (32767 : Int64)), (.long q_1)])
      refine own_go (fun _ k => XS.lcmp X0.here hx rfl (hb hby own_d2_30) rfl k) ?_
      show own_Go _ _ _ _ s₁ (mkF m 31 #[.val (.long q_1), .second] [(.int (lcmpW q_1 (32767 : Int64)))])
      by_cases hc8 : (32767 : Int64) < q_1
      · refine own_go (fun _ k => XS.ifYes X0.here hx rfl (pc0 := 31) (pc' := 36) rfl (hb hby own_d2_31) rfl (Jvm.Free.XT.ll_gt_t hc8) (by decide) (by decide) k) ?_
        show own_Go _ _ _ _ s₁ (mkF m 36 #[.val (.long q_1), .second] [])
        refine own_go (fun _ k => XS.lloadN X0.here hx rfl (hb hby own_d2_36) rfl k) ?_
        show own_Go _ _ _ _ s₁ (mkF m 37 #[.val (.long q_1), .second] [(.long q_1)])
        refine own_go (fun _ k => X0.ldc2Long hx hown (mvT hZ (hw _ (List.mem_of_getElem? (i := 11) rfl))) (g := (mkF m 37 #[.val (.long q_1), .second] [(.long q_1)])) rfl (hb hby own_d2_37) _ k) ?_
        show own_Go _ _ _ _ s₁ (mkF m 40 #[.val (.long q_1), .second] [(.long (-2147483648 : Int64)), (.long q_1)])
        refine own_go (fun _ k => XS.lcmp X0.here hx rfl (hb hby own_d2_40) rfl k) ?_
        show own_Go _ _ _ _ s₁ (mkF m 41 #[.val (.long q_1), .second] [(.int (lcmpW q_1 (-2147483648 : Int64)))])
        by_cases hc9 : q_1 < (-2147483648 : Int64)
        · refine own_go (fun _ k => XS.ifYes X0.here hx rfl (pc0 := 41) (pc' := 54) rfl (hb hby own_d2_41) rfl (Jvm.Free.XT.ll_lt_t hc9) (by decide) (by decide) k) ?_
          show own_Go _ _ _ _ s₁ (mkF m 54 #[.val (.long q_1), .second] [])
          refine own_go (fun _ k => XS.iconst X0.here hx rfl (hb hby own_d2_54) k) ?_
          show own_Go _ _ _ _ s₁ (mkF m 55 #[.val (.long q_1), .second] [(.int (3 : Int32))])
          obtain ⟨fs, hr, hrun, hended, hW, hsame⟩ := X0.leave (v := some (.int (3 : Int32))) (fun h => by rw [Bd.returns] at h; cases h)
          refine ⟨_, _, retOut X0 hx Bd.returns rfl (Or.inl ⟨rfl, Or.inl rfl, _, rfl⟩) (hb hby own_d2_55) hr, hrun, hended, _, _, rfl, ?_, ⟨_, rfl⟩, hW, hsame.mono (by decide) (by decide)⟩
          show own_Q2 Z q_1 h0 n0 _ s₁.heap _
          rw [e0]
          exact ⟨_, rfl, N0, (by subst_vars; first | rfl | simp only [own_rm2_ret, if_pos hc1, if_neg hc2, if_pos hc8, if_pos hc9]), rfl⟩
        · refine own_go (fun _ k => XS.ifNo X0.here hx rfl (hb hby own_d2_41) rfl (Jvm.Free.XT.ll_lt_f hc9) k) ?_
          show own_Go _ _ _ _ s₁ (mkF m 44 #[.val (.long q_1), .second] [])
          refine own_go (fun _ k => XS.lloadN X0.here hx rfl (hb hby own_d2_44) rfl k) ?_
          show own_Go _ _ _ _ s₁ (mkF m 45 #[.val (.long q_1), .second] [(.long q_1)])
          refine own_go (fun _ k => X0.ldc2Long hx hown (mvT hZ (hw _ (List.mem_of_getElem? (i := 12) rfl))) (g := (mkF m 45 #[.val (.long q_1), .second] [(.long q_1)])) rfl (hb hby own_d2_45) _ k) ?_
          show own_Go _ _ _ _ s₁ (mkF m 48 #[.val (.long q_1), .second] [(.long (2147483647 : Int64)), (.long q_1)])
          refine own_go (fun _ k => XS.lcmp X0.here hx rfl (hb hby own_d2_48) rfl k) ?_
          show own_Go _ _ _ _ s₁ (mkF m 49 #[.val (.long q_1), .second] [(.int (lcmpW q_1 (2147483647 : Int64)))])
          by_cases hc11 : (2147483647 : Int64) < q_1
          · refine own_go (fun _ k => XS.ifYes X0.here hx rfl (pc0 := 49) (pc' := 54) rfl (hb hby own_d2_49) rfl (Jvm.Free.XT.ll_gt_t hc11) (by decide) (by decide) k) ?_
            show own_Go _ _ _ _ s₁ (mkF m 54 #[.val (.long q_1), .second] [])
            refine own_go (fun _ k => XS.iconst X0.here hx rfl (hb hby own_d2_54) k) ?_
            show own_Go _ _ _ _ s₁ (mkF m 55 #[.val (.long q_1), .second] [(.int (3 : Int32))])
            obtain ⟨fs, hr, hrun, hended, hW, hsame⟩ := X0.leave (v := some (.int (3 : Int32))) (fun h => by rw [Bd.returns] at h; cases h)
            refine ⟨_, _, retOut X0 hx Bd.returns rfl (Or.inl ⟨rfl, Or.inl rfl, _, rfl⟩) (hb hby own_d2_55) hr, hrun, hended, _, _, rfl, ?_, ⟨_, rfl⟩, hW, hsame.mono (by decide) (by decide)⟩
            show own_Q2 Z q_1 h0 n0 _ s₁.heap _
            rw [e0]
            exact ⟨_, rfl, N0, (by subst_vars; first | rfl | simp only [own_rm2_ret, if_pos hc1, if_neg hc2, if_pos hc8, if_neg hc9, if_pos hc11]), rfl⟩
          · refine own_go (fun _ k => XS.ifNo X0.here hx rfl (hb hby own_d2_49) rfl (Jvm.Free.XT.ll_gt_f hc11) k) ?_
            show own_Go _ _ _ _ s₁ (mkF m 52 #[.val (.long q_1), .second] [])
            refine own_go (fun _ k => XS.iconst X0.here hx rfl (hb hby own_d2_52) k) ?_
            show own_Go _ _ _ _ s₁ (mkF m 53 #[.val (.long q_1), .second] [(.int (2 : Int32))])
            obtain ⟨fs, hr, hrun, hended, hW, hsame⟩ := X0.leave (v := some (.int (2 : Int32))) (fun h => by rw [Bd.returns] at h; cases h)
            refine ⟨_, _, retOut X0 hx Bd.returns rfl (Or.inl ⟨rfl, Or.inl rfl, _, rfl⟩) (hb hby own_d2_53) hr, hrun, hended, _, _, rfl, ?_, ⟨_, rfl⟩, hW, hsame.mono (by decide) (by decide)⟩
            show own_Q2 Z q_1 h0 n0 _ s₁.heap _
            rw [e0]
            exact ⟨_, rfl, N0, (by subst_vars; first | rfl | simp only [own_rm2_ret, if_pos hc1, if_neg hc2, if_pos hc8, if_neg hc9, if_neg hc11]), rfl⟩
      · refine own_go (fun _ k => XS.ifNo X0.here hx rfl (hb hby own_d2_31) rfl (Jvm.Free.XT.ll_gt_f hc8) k) ?_
        show own_Go _ _ _ _ s₁ (mkF m 34 #[.val (.long q_1), .second] [])
        refine own_go (fun _ k => XS.iconst X0.here hx rfl (hb hby own_d2_34) k) ?_
        show own_Go _ _ _ _ s₁ (mkF m 35 #[.val (.long q_1), .second] [(.int (1 : Int32))])
        obtain ⟨fs, hr, hrun, hended, hW, hsame⟩ := X0.leave (v := some (.int (1 : Int32))) (fun h => by rw [Bd.returns] at h; cases h)
        refine ⟨_, _, retOut X0 hx Bd.returns rfl (Or.inl ⟨rfl, Or.inl rfl, _, rfl⟩) (hb hby own_d2_35) hr, hrun, hended, _, _, rfl, ?_, ⟨_, rfl⟩, hW, hsame.mono (by decide) (by decide)⟩
        show own_Q2 Z q_1 h0 n0 _ s₁.heap _
        rw [e0]
        exact ⟨_, rfl, N0, (by subst_vars; first | rfl | simp only [own_rm2_ret, if_pos hc1, if_neg hc2, if_neg hc8]), rfl⟩
  · refine own_go (fun _ k => XS.ifNo X0.here hx rfl (hb hby own_d2_5) rfl (Jvm.Free.XT.ll_lt_f hc1) k) ?_
    show own_Go _ _ _ _ s₁ (mkF m 8 #[.val (.long q_1), .second] [])
    refine own_go (fun _ k => XS.lloadN X0.here hx rfl (hb hby own_d2_8) rfl k) ?_
    show own_Go _ _ _ _ s₁ (mkF m 9 #[.val (.long q_1), .second] [(.long q_1)])
    refine own_go (fun _ k => X0.ldc2Long hx hown (mvT hZ (hw _ (List.mem_of_getElem? (i := 9) rfl))) (g := (mkF m 9 #[.val (.long q_1), .second] [(.long q_1)])) rfl (hb hby own_d2_9) _ k) ?_
    show own_Go _ _ _ _ s₁ (mkF m 12 #[.val (.long q_1), .second] [(.long (127 : Int64)), (.long q_1)])
    refine own_go (fun _ k => XS.lcmp X0.here hx rfl (hb hby own_d2_12) rfl k) ?_
    show own_Go _ _ _ _ s₁ (mkF m 13 #[.val (.long q_1), .second] [(.int (lcmpW q_1 (127 : Int64)))])
    by_cases hc15 : (127 : Int64) < q_1
    · refine own_go (fun _ k => XS.ifYes X0.here hx rfl (pc0 := 13) (pc' := 18) rfl (hb hby own_d2_13) rfl (Jvm.Free.XT.ll_gt_t hc15) (by decide) (by decide) k) ?_
      show own_Go _ _ _ _ s₁ (mkF m 18 #[.val (.long q_1), .second] [])
      refine own_go (fun _ k => XS.lloadN X0.here hx rfl (hb hby own_d2_18) rfl k) ?_
      show own_Go _ _ _ _ s₁ (mkF m 19 #[.val (.long q_1), .second] [(.long q_1)])
      refine own_go (fun _ k => X0.ldc2Long hx hown (mvT hZ (hw _ (List.mem_of_getElem? (i := 10) rfl))) (g := (mkF m 19 #[.val (.long q_1), .second] [(.long q_1)])) rfl (hb hby own_d2_19) _ k) ?_
      show own_Go _ _ _ _ s₁ (mkF m 22 #[.val (.long q_1), .second] [(.long (-32768 : Int64)), (.long q_1)])
      refine own_go (fun _ k => XS.lcmp X0.here hx rfl (hb hby own_d2_22) rfl k) ?_
      show own_Go _ _ _ _ s₁ (mkF m 23 #[.val (.long q_1), .second] [(.int (lcmpW q_1 (-32768 : Int64)))])
      by_cases hc16 : q_1 < (-32768 : Int64)
      · refine own_go (fun _ k => XS.ifYes X0.here hx rfl (pc0 := 23) (pc' := 36) rfl (hb hby own_d2_23) rfl (Jvm.Free.XT.ll_lt_t hc16) (by decide) (by decide) k) ?_
        show own_Go _ _ _ _ s₁ (mkF m 36 #[.val (.long q_1), .second] [])
        refine own_go (fun _ k => XS.lloadN X0.here hx rfl (hb hby own_d2_36) rfl k) ?_
        show own_Go _ _ _ _ s₁ (mkF m 37 #[.val (.long q_1), .second] [(.long q_1)])
        refine own_go (fun _ k => X0.ldc2Long hx hown (mvT hZ (hw _ (List.mem_of_getElem? (i := 11) rfl))) (g := (mkF m 37 #[.val (.long q_1), .second] [(.long q_1)])) rfl (hb hby own_d2_37) _ k) ?_
        show own_Go _ _ _ _ s₁ (mkF m 40 #[.val (.long q_1), .second] [(.long (-2147483648 : Int64)), (.long q_1)])
        refine own_go (fun _ k => XS.lcmp X0.here hx rfl (hb hby own_d2_40) rfl k) ?_
        show own_Go _ _ _ _ s₁ (mkF m 41 #[.val (.long q_1), .second] [(.int (lcmpW q_1 (-2147483648 : Int64)))])
        by_cases hc17 : q_1 < (-2147483648 : Int64)
        · refine own_go (fun _ k => XS.ifYes X0.here hx rfl (pc0 := 41) (pc' := 54) rfl (hb hby own_d2_41) rfl (Jvm.Free.XT.ll_lt_t hc17) (by decide) (by decide) k) ?_
          show own_Go _ _ _ _ s₁ (mkF m 54 #[.val (.long q_1), .second] [])
          refine own_go (fun _ k => XS.iconst X0.here hx rfl (hb hby own_d2_54) k) ?_
          show own_Go _ _ _ _ s₁ (mkF m 55 #[.val (.long q_1), .second] [(.int (3 : Int32))])
          obtain ⟨fs, hr, hrun, hended, hW, hsame⟩ := X0.leave (v := some (.int (3 : Int32))) (fun h => by rw [Bd.returns] at h; cases h)
          refine ⟨_, _, retOut X0 hx Bd.returns rfl (Or.inl ⟨rfl, Or.inl rfl, _, rfl⟩) (hb hby own_d2_55) hr, hrun, hended, _, _, rfl, ?_, ⟨_, rfl⟩, hW, hsame.mono (by decide) (by decide)⟩
          show own_Q2 Z q_1 h0 n0 _ s₁.heap _
          rw [e0]
          exact ⟨_, rfl, N0, (by subst_vars; first | rfl | simp only [own_rm2_ret, if_neg hc1, if_pos hc15, if_pos hc16, if_pos hc17]), rfl⟩
        · refine own_go (fun _ k => XS.ifNo X0.here hx rfl (hb hby own_d2_41) rfl (Jvm.Free.XT.ll_lt_f hc17) k) ?_
          show own_Go _ _ _ _ s₁ (mkF m 44 #[.val (.long q_1), .second] [])
          refine own_go (fun _ k => XS.lloadN X0.here hx rfl (hb hby own_d2_44) rfl k) ?_
          show own_Go _ _ _ _ s₁ (mkF m 45 #[.val (.long q_1), .second] [(.long q_1)])
          refine own_go (fun _ k => X0.ldc2Long hx hown (mvT hZ (hw _ (List.mem_of_getElem? (i := 12) rfl))) (g := (mkF m 45 #[.val (.long q_1), .second] [(.long q_1)])) rfl (hb hby own_d2_45) _ k) ?_
          show own_Go _ _ _ _ s₁ (mkF m 48 #[.val (.long q_1), .second] [(.long (2147483647 : Int64)), (.long q_1)])
          refine own_go (fun _ k => XS.lcmp X0.here hx rfl (hb hby own_d2_48) rfl k) ?_
          show own_Go _ _ _ _ s₁ (mkF m 49 #[.val (.long q_1), .second] [(.int (lcmpW q_1 (2147483647 : Int64)))])
          by_cases hc19 : (2147483647 : Int64) < q_1
          · refine own_go (fun _ k => XS.ifYes X0.here hx rfl (pc0 := 49) (pc' := 54) rfl (hb hby own_d2_49) rfl (Jvm.Free.XT.ll_gt_t hc19) (by decide) (by decide) k) ?_
            show own_Go _ _ _ _ s₁ (mkF m 54 #[.val (.long q_1), .second] [])
            refine own_go (fun _ k => XS.iconst X0.here hx rfl (hb hby own_d2_54) k) ?_
            show own_Go _ _ _ _ s₁ (mkF m 55 #[.val (.long q_1), .second] [(.int (3 : Int32))])
            obtain ⟨fs, hr, hrun, hended, hW, hsame⟩ := X0.leave (v := some (.int (3 : Int32))) (fun h => by rw [Bd.returns] at h; cases h)
            refine ⟨_, _, retOut X0 hx Bd.returns rfl (Or.inl ⟨rfl, Or.inl rfl, _, rfl⟩) (hb hby own_d2_55) hr, hrun, hended, _, _, rfl, ?_, ⟨_, rfl⟩, hW, hsame.mono (by decide) (by decide)⟩
            show own_Q2 Z q_1 h0 n0 _ s₁.heap _
            rw [e0]
            exact ⟨_, rfl, N0, (by subst_vars; first | rfl | simp only [own_rm2_ret, if_neg hc1, if_pos hc15, if_pos hc16, if_neg hc17, if_pos hc19]), rfl⟩
          · refine own_go (fun _ k => XS.ifNo X0.here hx rfl (hb hby own_d2_49) rfl (Jvm.Free.XT.ll_gt_f hc19) k) ?_
            show own_Go _ _ _ _ s₁ (mkF m 52 #[.val (.long q_1), .second] [])
            refine own_go (fun _ k => XS.iconst X0.here hx rfl (hb hby own_d2_52) k) ?_
            show own_Go _ _ _ _ s₁ (mkF m 53 #[.val (.long q_1), .second] [(.int (2 : Int32))])
            obtain ⟨fs, hr, hrun, hended, hW, hsame⟩ := X0.leave (v := some (.int (2 : Int32))) (fun h => by rw [Bd.returns] at h; cases h)
            refine ⟨_, _, retOut X0 hx Bd.returns rfl (Or.inl ⟨rfl, Or.inl rfl, _, rfl⟩) (hb hby own_d2_53) hr, hrun, hended, _, _, rfl, ?_, ⟨_, rfl⟩, hW, hsame.mono (by decide) (by decide)⟩
            show own_Q2 Z q_1 h0 n0 _ s₁.heap _
            rw [e0]
            exact ⟨_, rfl, N0, (by subst_vars; first | rfl | simp only [own_rm2_ret, if_neg hc1, if_pos hc15, if_pos hc16, if_neg hc17, if_neg hc19]), rfl⟩
      · refine own_go (fun _ k => XS.ifNo X0.here hx rfl (hb hby own_d2_23) rfl (Jvm.Free.XT.ll_lt_f hc16) k) ?_
        show own_Go _ _ _ _ s₁ (mkF m 26 #[.val (.long q_1), .second] [])
        refine own_go (fun _ k => XS.lloadN X0.here hx rfl (hb hby own_d2_26) rfl k) ?_
        show own_Go _ _ _ _ s₁ (mkF m 27 #[.val (.long q_1), .second] [(.long q_1)])
        refine own_go (fun _ k => X0.ldc2Long hx hown (mvT hZ (hw _ (List.mem_of_getElem? (i := 13) rfl))) (g := (mkF m 27 #[.val (.long q_1), .second] [(.long q_1)])) rfl (hb hby own_d2_27) _ k) ?_
        show own_Go _ _ _ _ s₁ (mkF m 30 #[.val (.long q_1), .second] [(.long (32767 : Int64)), (.long q_1)])
        refine own_go (fun _ k => XS.lcmp X0.here hx rfl (hb hby own_d2_30) rfl k) ?_
        show own_Go _ _ _ _ s₁ (mkF m 31 #[.val (.long q_1), .second] [(.int (lcmpW q_1 (32767 : Int64)))])
        by_cases hc22 : (32767 : Int64) < q_1
        · refine own_go (fun _ k => XS.ifYes X0.here hx rfl (pc0 := 31) (pc' := 36) rfl (hb hby own_d2_31) rfl (Jvm.Free.XT.ll_gt_t hc22) (by decide) (by decide) k) ?_
          show own_Go _ _ _ _ s₁ (mkF m 36 #[.val (.long q_1), .second] [])
          refine own_go (fun _ k => XS.lloadN X0.here hx rfl (hb hby own_d2_36) rfl k) ?_
          show own_Go _ _ _ _ s₁ (mkF m 37 #[.val (.long q_1), .second] [(.long q_1)])
          refine own_go (fun _ k => X0.ldc2Long hx hown (mvT hZ (hw _ (List.mem_of_getElem? (i := 11) rfl))) (g := (mkF m 37 #[.val (.long q_1), .second] [(.long q_1)])) rfl (hb hby own_d2_37) _ k) ?_
          show own_Go _ _ _ _ s₁ (mkF m 40 #[.val (.long q_1), .second] [(.long (-2147483648 : Int64)), (.long q_1)])
          refine own_go (fun _ k => XS.lcmp X0.here hx rfl (hb hby own_d2_40) rfl k) ?_
          show own_Go _ _ _ _ s₁ (mkF m 41 #[.val (.long q_1), .second] [(.int (lcmpW q_1 (-2147483648 : Int64)))])
          by_cases hc23 : q_1 < (-2147483648 : Int64)
          · refine own_go (fun _ k => XS.ifYes X0.here hx rfl (pc0 := 41) (pc' := 54) rfl (hb hby own_d2_41) rfl (Jvm.Free.XT.ll_lt_t hc23) (by decide) (by decide) k) ?_
            show own_Go _ _ _ _ s₁ (mkF m 54 #[.val (.long q_1), .second] [])
            refine own_go (fun _ k => XS.iconst X0.here hx rfl (hb hby own_d2_54) k) ?_
            show own_Go _ _ _ _ s₁ (mkF m 55 #[.val (.long q_1), .second] [(.int (3 : Int32))])
            obtain ⟨fs, hr, hrun, hended, hW, hsame⟩ := X0.leave (v := some (.int (3 : Int32))) (fun h => by rw [Bd.returns] at h; cases h)
            refine ⟨_, _, retOut X0 hx Bd.returns rfl (Or.inl ⟨rfl, Or.inl rfl, _, rfl⟩) (hb hby own_d2_55) hr, hrun, hended, _, _, rfl, ?_, ⟨_, rfl⟩, hW, hsame.mono (by decide) (by decide)⟩
            show own_Q2 Z q_1 h0 n0 _ s₁.heap _
            rw [e0]
            exact ⟨_, rfl, N0, (by subst_vars; first | rfl | simp only [own_rm2_ret, if_neg hc1, if_pos hc15, if_neg hc16, if_pos hc22, if_pos hc23]), rfl⟩
          · refine own_go (fun _ k => XS.ifNo X0.here hx rfl (hb hby own_d2_41) rfl (Jvm.Free.XT.ll_lt_f hc23) k) ?_
            show own_Go _ _ _ _ s₁ (mkF m 44 #[.val (.long q_1), .second] [])
            refine own_go (fun _ k => XS.lloadN X0.here hx rfl (hb hby own_d2_44) rfl k) ?_
            show own_Go _ _ _ _ s₁ (mkF m 45 #[.val (.long q_1), .second] [(.long q_1)])
            refine own_go (fun _ k => X0.ldc2Long hx hown (mvT hZ (hw _ (List.mem_of_getElem? (i := 12) rfl))) (g := (mkF m 45 #[.val (.long q_1), .second] [(.long q_1)])) rfl (hb hby own_d2_45) _ k) ?_
            show own_Go _ _ _ _ s₁ (mkF m 48 #[.val (.long q_1), .second] [(.long (2147483647 : Int64)), (.long q_1)])
            refine own_go (fun _ k => XS.lcmp X0.here hx rfl (hb hby own_d2_48) rfl k) ?_
            show own_Go _ _ _ _ s₁ (mkF m 49 #[.val (.long q_1), .second] [(.int (lcmpW q_1 (2147483647 : Int64)))])
            by_cases hc25 : (2147483647 : Int64) < q_1
            · refine own_go (fun _ k => XS.ifYes X0.here hx rfl (pc0 := 49) (pc' := 54) rfl (hb hby own_d2_49) rfl (Jvm.Free.XT.ll_gt_t hc25) (by decide) (by decide) k) ?_
              show own_Go _ _ _ _ s₁ (mkF m 54 #[.val (.long q_1), .second] [])
              refine own_go (fun _ k => XS.iconst X0.here hx rfl (hb hby own_d2_54) k) ?_
              show own_Go _ _ _ _ s₁ (mkF m 55 #[.val (.long q_1), .second] [(.int (3 : Int32))])
              obtain ⟨fs, hr, hrun, hended, hW, hsame⟩ := X0.leave (v := some (.int (3 : Int32))) (fun h => by rw [Bd.returns] at h; cases h)
              refine ⟨_, _, retOut X0 hx Bd.returns rfl (Or.inl ⟨rfl, Or.inl rfl, _, rfl⟩) (hb hby own_d2_55) hr, hrun, hended, _, _, rfl, ?_, ⟨_, rfl⟩, hW, hsame.mono (by decide) (by decide)⟩
              show own_Q2 Z q_1 h0 n0 _ s₁.heap _
              rw [e0]
              exact ⟨_, rfl, N0, (by subst_vars; first | rfl | simp only [own_rm2_ret, if_neg hc1, if_pos hc15, if_neg hc16, if_pos hc22, if_neg hc23, if_pos hc25]), rfl⟩
            · refine own_go (fun _ k => XS.ifNo X0.here hx rfl (hb hby own_d2_49) rfl (Jvm.Free.XT.ll_gt_f hc25) k) ?_
              show own_Go _ _ _ _ s₁ (mkF m 52 #[.val (.long q_1), .second] [])
              refine own_go (fun _ k => XS.iconst X0.here hx rfl (hb hby own_d2_52) k) ?_
              show own_Go _ _ _ _ s₁ (mkF m 53 #[.val (.long q_1), .second] [(.int (2 : Int32))])
              obtain ⟨fs, hr, hrun, hended, hW, hsame⟩ := X0.leave (v := some (.int (2 : Int32))) (fun h => by rw [Bd.returns] at h; cases h)
              refine ⟨_, _, retOut X0 hx Bd.returns rfl (Or.inl ⟨rfl, Or.inl rfl, _, rfl⟩) (hb hby own_d2_53) hr, hrun, hended, _, _, rfl, ?_, ⟨_, rfl⟩, hW, hsame.mono (by decide) (by decide)⟩
              show own_Q2 Z q_1 h0 n0 _ s₁.heap _
              rw [e0]
              exact ⟨_, rfl, N0, (by subst_vars; first | rfl | simp only [own_rm2_ret, if_neg hc1, if_pos hc15, if_neg hc16, if_pos hc22, if_neg hc23, if_neg hc25]), rfl⟩
        · refine own_go (fun _ k => XS.ifNo X0.here hx rfl (hb hby own_d2_31) rfl (Jvm.Free.XT.ll_gt_f hc22) k) ?_
          show own_Go _ _ _ _ s₁ (mkF m 34 #[.val (.long q_1), .second] [])
          refine own_go (fun _ k => XS.iconst X0.here hx rfl (hb hby own_d2_34) k) ?_
          show own_Go _ _ _ _ s₁ (mkF m 35 #[.val (.long q_1), .second] [(.int (1 : Int32))])
          obtain ⟨fs, hr, hrun, hended, hW, hsame⟩ := X0.leave (v := some (.int (1 : Int32))) (fun h => by rw [Bd.returns] at h; cases h)
          refine ⟨_, _, retOut X0 hx Bd.returns rfl (Or.inl ⟨rfl, Or.inl rfl, _, rfl⟩) (hb hby own_d2_35) hr, hrun, hended, _, _, rfl, ?_, ⟨_, rfl⟩, hW, hsame.mono (by decide) (by decide)⟩
          show own_Q2 Z q_1 h0 n0 _ s₁.heap _
          rw [e0]
          exact ⟨_, rfl, N0, (by subst_vars; first | rfl | simp only [own_rm2_ret, if_neg hc1, if_pos hc15, if_neg hc16, if_neg hc22]), rfl⟩
    · refine own_go (fun _ k => XS.ifNo X0.here hx rfl (hb hby own_d2_13) rfl (Jvm.Free.XT.ll_gt_f hc15) k) ?_
      show own_Go _ _ _ _ s₁ (mkF m 16 #[.val (.long q_1), .second] [])
      refine own_go (fun _ k => XS.iconst X0.here hx rfl (hb hby own_d2_16) k) ?_
      show own_Go _ _ _ _ s₁ (mkF m 17 #[.val (.long q_1), .second] [(.int (0 : Int32))])
      obtain ⟨fs, hr, hrun, hended, hW, hsame⟩ := X0.leave (v := some (.int (0 : Int32))) (fun h => by rw [Bd.returns] at h; cases h)
      refine ⟨_, _, retOut X0 hx Bd.returns rfl (Or.inl ⟨rfl, Or.inl rfl, _, rfl⟩) (hb hby own_d2_17) hr, hrun, hended, _, _, rfl, ?_, ⟨_, rfl⟩, hW, hsame.mono (by decide) (by decide)⟩
      show own_Q2 Z q_1 h0 n0 _ s₁.heap _
      rw [e0]
      exact ⟨_, rfl, N0, (by subst_vars; first | rfl | simp only [own_rm2_ret, if_neg hc1, if_neg hc15]), rfl⟩
theorem own_sf (q : Int64) : own_rm1_ret q = own_rm2_ret q := by
  have e1 : (-128 : Int64).toInt = -128 := by decide
  have e2 : (127 : Int64).toInt = 127 := by decide
  have e3 : (-32768 : Int64).toInt = -32768 := by decide
  have e4 : (32767 : Int64).toInt = 32767 := by decide
  have e5 : (-2147483648 : Int64).toInt = -2147483648 := by decide
  have e6 : (2147483647 : Int64).toInt = 2147483647 := by decide
  have a1 := c_l2i q
  have a2 := c_i2b q.toInt32
  have a3 := c_i2s q.toInt32
  have a4 := rng32 q.toInt32
  have b1 := c_i2l (q.toInt32.toInt8.toInt32)
  have b2 := c_i2l (q.toInt32.toInt16.toInt32)
  have b3 := c_i2l (q.toInt32)
  unfold own_rm1_ret own_rm2_ret
  simp only [← Int64.toInt_inj, Int64.lt_iff_toInt_lt, e1, e2, e3, e4, e5, e6, b1, b2, b3]
  generalize q.toInt = x at *
  generalize q.toInt32.toInt = y at *
  generalize q.toInt32.toInt8.toInt32.toInt = u at *
  generalize q.toInt32.toInt16.toInt32.toInt = v at *
  repeat' split
  all_goals first | rfl | (exfalso; omega)
theorem own_ef_own_rm0 (m : MethodId) (x0 : Int64) (x1 : Int32) (x2 : Int32) : entryFrame m #[(.long x0), (.int x1), (.int x2)] maxLocals = mkF m 0 #[.val (.long x0), .second, .val (.int x1), .val (.int x2), .unset, .unset] [] := by first | (simp [entryFrame, mkF, argsToLocals, Value.category, maxLocals]; done) | rfl
set_option maxRecDepth 65536 in
set_option maxHeartbeats 4000000 in
theorem own_t0_0 (q_1 : Int64) (p_2 : Int32) (p_3 : Int32) (r2 : Int32) (r4 : Int32) (hr_r2 : r2 = (own_rm1_ret ((q_1 >>> ((p_2 &&& (63 : Int32)) &&& 0x3f).toInt64) + (((p_3 &&& (3 : Int32)) - (1 : Int32)).toInt64)))) (hr_r4 : r4 = (own_rm2_ret ((q_1 >>> ((p_2 &&& (63 : Int32)) &&& 0x3f).toInt64) + (((p_3 &&& (3 : Int32)) - (1 : Int32)).toInt64)))) : r2 = r4 := by
  subst_vars; exact own_sf _
def own_Q0 (Z : State) (q_1 : Int64) (p_2 : Int32) (p_3 : Int32) (h0 : Heap) (n0 : Nat) (v : Option Value) (h : Heap) (L : List Loc) : Prop := v = some (.int (1 : Int32)) ∧ Fr n0 L
set_option maxRecDepth 65536 in
set_option maxHeartbeats 40000000 in
theorem own_rm0 (l : Launch) (Z : State) (a0 : Array Value) (hw : ∀ d ∈ tables_1, d.before a0 Z = true) (ws : List Jvm.Cond) (q_1 : Int64) (p_2 : Int32) (p_3 : Int32) (h0 : Heap) (n0 : Nat) (Z0 : n0 ≤ h0.size) :
    MetFree l x (head1 (Jvm.Cond.code x code maxLocals ret :: ws) room_1) (fun a U => a = #[(.long q_1), (.int p_2), (.int p_3)] ∧ Z.Warmed39 U.vm ∧ U.heap = h0) (fun _ _ _ _ _ => True) (fun _ U o U' => ∃ v L, o = .returned v ∧ own_Q0 Z q_1 p_2 p_3 h0 n0 v U'.heap L ∧ FrameEnd U o U' L 0 0) := by
  refine MetFree.of_bodySF (plainFor_of_name own_pn1) hisR ?_
  intro p e s m args below meth c s₁ Bd hml0 hP hK
  obtain ⟨rfl, hZ, hh⟩ := hP
  have hx := Bd.exec
  have hby := Bd.bytes
  have hml : c.maxLocals = 6 := hml0
  have hown : s.vm.findClass "com/example/bytewright/bytewright/codec/TagShortestFormPinLaw" = some m.cls := findClass_of_methodNamed Bd.named
  have hnm := (name_of_methodNamed Bd.named Bd.method).1
  have X0 : Stand p l e room_1 s m #[(.long q_1), (.int p_2), (.int p_3)] below meth c s₁ [] 0 0 := Stand.of_body Bd
  have e0 : s₁.heap = h0 := by rw [← hh, Bd.state]; rfl
  have N0 := Fr.nil n0
  have z0 : n0 ≤ h0.size := Z0
  show own_Go p.tables e below (fun t o => t.status = .running ∧ Ended t below o ∧ ∃ v L, o = .returned v ∧ own_Q0 Z q_1 p_2 p_3 h0 n0 v t.heap L ∧ FrameEnd s o t L 0 0) s₁ (entryFrame m #[(.long q_1), (.int p_2), (.int p_3)] maxLocals)
  rw [own_ef_own_rm0 m q_1 p_2 p_3]
  show own_Go _ _ _ _ s₁ (mkF m 0 #[.val (.long q_1), .second, .val (.int p_2), .val (.int p_3), .unset, .unset] [])
  refine own_go (fun _ k => XS.lloadN X0.here hx rfl (hb hby at_0) rfl k) ?_
  show own_Go _ _ _ _ s₁ (mkF m 1 #[.val (.long q_1), .second, .val (.int p_2), .val (.int p_3), .unset, .unset] [(.long q_1)])
  refine own_go (fun _ k => XS.iloadN X0.here hx rfl (hb hby at_1) rfl k) ?_
  show own_Go _ _ _ _ s₁ (mkF m 2 #[.val (.long q_1), .second, .val (.int p_2), .val (.int p_3), .unset, .unset] [(.int p_2), (.long q_1)])
  refine own_go (fun _ k => XS.bipush X0.here hx rfl (hb hby at_2) k) ?_
  show own_Go _ _ _ _ s₁ (mkF m 4 #[.val (.long q_1), .second, .val (.int p_2), .val (.int p_3), .unset, .unset] [(.int (63 : Int32)), (.int p_2), (.long q_1)])
  refine own_go (fun _ k => XS.iand X0.here hx rfl (hb hby at_4) rfl k) ?_
  show own_Go _ _ _ _ s₁ (mkF m 5 #[.val (.long q_1), .second, .val (.int p_2), .val (.int p_3), .unset, .unset] [(.int (p_2 &&& (63 : Int32))), (.long q_1)])
  refine own_go (fun _ k => XS.lshr X0.here hx rfl (hb hby at_5) rfl k) ?_
  show own_Go _ _ _ _ s₁ (mkF m 6 #[.val (.long q_1), .second, .val (.int p_2), .val (.int p_3), .unset, .unset] [(.long (q_1 >>> ((p_2 &&& (63 : Int32)) &&& 0x3f).toInt64))])
  refine own_go (fun _ k => XS.iloadN X0.here hx rfl (hb hby at_6) rfl k) ?_
  show own_Go _ _ _ _ s₁ (mkF m 7 #[.val (.long q_1), .second, .val (.int p_2), .val (.int p_3), .unset, .unset] [(.int p_3), (.long (q_1 >>> ((p_2 &&& (63 : Int32)) &&& 0x3f).toInt64))])
  refine own_go (fun _ k => XS.iconst X0.here hx rfl (hb hby at_7) k) ?_
  show own_Go _ _ _ _ s₁ (mkF m 8 #[.val (.long q_1), .second, .val (.int p_2), .val (.int p_3), .unset, .unset] [(.int (3 : Int32)), (.int p_3), (.long (q_1 >>> ((p_2 &&& (63 : Int32)) &&& 0x3f).toInt64))])
  refine own_go (fun _ k => XS.iand X0.here hx rfl (hb hby at_8) rfl k) ?_
  show own_Go _ _ _ _ s₁ (mkF m 9 #[.val (.long q_1), .second, .val (.int p_2), .val (.int p_3), .unset, .unset] [(.int (p_3 &&& (3 : Int32))), (.long (q_1 >>> ((p_2 &&& (63 : Int32)) &&& 0x3f).toInt64))])
  refine own_go (fun _ k => XS.iconst X0.here hx rfl (hb hby at_9) k) ?_
  show own_Go _ _ _ _ s₁ (mkF m 10 #[.val (.long q_1), .second, .val (.int p_2), .val (.int p_3), .unset, .unset] [(.int (1 : Int32)), (.int (p_3 &&& (3 : Int32))), (.long (q_1 >>> ((p_2 &&& (63 : Int32)) &&& 0x3f).toInt64))])
  refine own_go (fun _ k => XS.isub X0.here hx rfl (hb hby at_10) rfl k) ?_
  show own_Go _ _ _ _ s₁ (mkF m 11 #[.val (.long q_1), .second, .val (.int p_2), .val (.int p_3), .unset, .unset] [(.int ((p_3 &&& (3 : Int32)) - (1 : Int32))), (.long (q_1 >>> ((p_2 &&& (63 : Int32)) &&& 0x3f).toInt64))])
  refine own_go (fun _ k => XS.i2l X0.here hx rfl (hb hby at_11) rfl k) ?_
  show own_Go _ _ _ _ s₁ (mkF m 12 #[.val (.long q_1), .second, .val (.int p_2), .val (.int p_3), .unset, .unset] [(.long (((p_3 &&& (3 : Int32)) - (1 : Int32)).toInt64)), (.long (q_1 >>> ((p_2 &&& (63 : Int32)) &&& 0x3f).toInt64))])
  refine own_go (fun _ k => XS.ladd X0.here hx rfl (hb hby at_12) rfl k) ?_
  show own_Go _ _ _ _ s₁ (mkF m 13 #[.val (.long q_1), .second, .val (.int p_2), .val (.int p_3), .unset, .unset] [(.long ((q_1 >>> ((p_2 &&& (63 : Int32)) &&& 0x3f).toInt64) + (((p_3 &&& (3 : Int32)) - (1 : Int32)).toInt64)))])
  refine own_go (fun _ k => XS.lstore X0.here hx rfl (hb hby at_13) rfl (l' := #[.val (.long q_1), .second, .val (.int p_2), .val (.int p_3), .val (.long ((q_1 >>> ((p_2 &&& (63 : Int32)) &&& 0x3f).toInt64) + (((p_3 &&& (3 : Int32)) - (1 : Int32)).toInt64))), .second]) rfl k) ?_
  show own_Go _ _ _ _ s₁ (mkF m 15 #[.val (.long q_1), .second, .val (.int p_2), .val (.int p_3), .val (.long ((q_1 >>> ((p_2 &&& (63 : Int32)) &&& 0x3f).toInt64) + (((p_3 &&& (3 : Int32)) - (1 : Int32)).toInt64))), .second] [])
  refine own_go (fun _ k => XS.lload X0.here hx rfl (hb hby at_15) rfl k) ?_
  show own_Go _ _ _ _ s₁ (mkF m 17 #[.val (.long q_1), .second, .val (.int p_2), .val (.int p_3), .val (.long ((q_1 >>> ((p_2 &&& (63 : Int32)) &&& 0x3f).toInt64) + (((p_3 &&& (3 : Int32)) - (1 : Int32)).toInt64))), .second] [(.long ((q_1 >>> ((p_2 &&& (63 : Int32)) &&& 0x3f).toInt64) + (((p_3 &&& (3 : Int32)) - (1 : Int32)).toInt64)))])
  obtain ⟨_, _, ⟨T1, L1, k1, n1⟩, -, X1, ⟨Lc1, hQ1, l1, y1, z1⟩, st1⟩ := Jvm.LawKit.callS X0 hx (y := (⟨"com/example/bytewright/bytewright/codec/Tag", "shortestForm", "(J)I"⟩ : MethodName)) hown (mvT hZ (hw _ (List.mem_of_getElem? (i := 0) rfl))) (mvT hZ (hw _ (List.mem_of_getElem? (i := 1) rfl))) (mvT hZ (hw _ (List.mem_of_getElem? (i := 2) rfl))) (mvT hZ (hw _ (List.mem_of_getElem? (i := 3) rfl))) (by decide) (backOf (W := 0) (own_rm1 l Z a0 hw [] ((q_1 >>> ((p_2 &&& (63 : Int32)) &&& 0x3f).toInt64) + (((p_3 &&& (3 : Int32)) - (1 : Int32)).toInt64))  h0 n0 (by omega) ) hZ (hw _ (List.mem_of_getElem? (i := 3) rfl)) (hw _ (List.mem_of_getElem? (i := 2) rfl)) (by decide) (by decide)) (g := (mkF m 17 #[.val (.long q_1), .second, .val (.int p_2), .val (.int p_3), .val (.long ((q_1 >>> ((p_2 &&& (63 : Int32)) &&& 0x3f).toInt64) + (((p_3 &&& (3 : Int32)) - (1 : Int32)).toInt64))), .second] [(.long ((q_1 >>> ((p_2 &&& (63 : Int32)) &&& 0x3f).toInt64) + (((p_3 &&& (3 : Int32)) - (1 : Int32)).toInt64)))])) rfl (by rw [hml]; rfl) (argsL := [(.long ((q_1 >>> ((p_2 &&& (63 : Int32)) &&& 0x3f).toInt64) + (((p_3 &&& (3 : Int32)) - (1 : Int32)).toInt64)))]) (rest := []) (lenOf own_pd0 rfl) rfl (by show 2 * 0 + _ ≤ _; exact Nat.le_of_eq rfl) (hb hby at_17) (fun _ _ => ⟨rfl, e0, (by decide : 0 + 0 ≤ _), (by decide : 0 + 0 ≤ _)⟩)
  dsimp only [Pt.U, Pt.locs, Pt.cells, Pt.slots] at X1 l1 y1 z1 st1 hQ1
  subst l1 y1 z1
  obtain ⟨r2, rfl, N1q, hr_r2, e1⟩ := hQ1
  have N1 := Fr.app N0 N1q
  refine own_go (fun _ k => st1 _ k) ?_
  show own_Go _ _ _ _ T1 (mkF m 20 #[.val (.long q_1), .second, .val (.int p_2), .val (.int p_3), .val (.long ((q_1 >>> ((p_2 &&& (63 : Int32)) &&& 0x3f).toInt64) + (((p_3 &&& (3 : Int32)) - (1 : Int32)).toInt64))), .second] [(.int r2)])
  refine own_go (fun _ k => XS.lload X1.here hx rfl (hb hby at_20) rfl k) ?_
  show own_Go _ _ _ _ T1 (mkF m 22 #[.val (.long q_1), .second, .val (.int p_2), .val (.int p_3), .val (.long ((q_1 >>> ((p_2 &&& (63 : Int32)) &&& 0x3f).toInt64) + (((p_3 &&& (3 : Int32)) - (1 : Int32)).toInt64))), .second] [(.long ((q_1 >>> ((p_2 &&& (63 : Int32)) &&& 0x3f).toInt64) + (((p_3 &&& (3 : Int32)) - (1 : Int32)).toInt64))), (.int r2)])
  obtain ⟨_, _, ⟨T3, L3, k3, n3⟩, -, X3, ⟨Lc3, hQ3, l3, y3, z3⟩, st3⟩ := Jvm.LawKit.callS X1 hx (y := (⟨"com/example/bytewright/bytewright/codec/TagShortestFormPinLaw", "expected", "(J)I"⟩ : MethodName)) hown (mvT hZ (hw _ (List.mem_of_getElem? (i := 4) rfl))) (mvT hZ (hw _ (List.mem_of_getElem? (i := 5) rfl))) (mvT hZ (hw _ (List.mem_of_getElem? (i := 6) rfl))) (mvT hZ (hw _ (List.mem_of_getElem? (i := 7) rfl))) (by decide) (backOf (W := 1) (own_rm2 l Z a0 hw [] ((q_1 >>> ((p_2 &&& (63 : Int32)) &&& 0x3f).toInt64) + (((p_3 &&& (3 : Int32)) - (1 : Int32)).toInt64))  h0 n0 (by omega) ) hZ (hw _ (List.mem_of_getElem? (i := 7) rfl)) (hw _ (List.mem_of_getElem? (i := 6) rfl)) (by decide) (by decide)) (g := (mkF m 22 #[.val (.long q_1), .second, .val (.int p_2), .val (.int p_3), .val (.long ((q_1 >>> ((p_2 &&& (63 : Int32)) &&& 0x3f).toInt64) + (((p_3 &&& (3 : Int32)) - (1 : Int32)).toInt64))), .second] [(.long ((q_1 >>> ((p_2 &&& (63 : Int32)) &&& 0x3f).toInt64) + (((p_3 &&& (3 : Int32)) - (1 : Int32)).toInt64))), (.int r2)])) rfl (by rw [hml]; rfl) (argsL := [(.long ((q_1 >>> ((p_2 &&& (63 : Int32)) &&& 0x3f).toInt64) + (((p_3 &&& (3 : Int32)) - (1 : Int32)).toInt64)))]) (rest := [(.int r2)]) (lenOf own_pd0 rfl) rfl (by show 2 * 0 + _ ≤ _; exact Nat.le_of_eq rfl) (hb hby at_22) (fun _ _ => ⟨rfl, e1, (by decide : 0 + 0 ≤ _), (by decide : 0 + 0 ≤ _)⟩)
  dsimp only [Pt.U, Pt.locs, Pt.cells, Pt.slots] at X3 l3 y3 z3 st3 hQ3
  subst l3 y3 z3
  obtain ⟨r4, rfl, N3q, hr_r4, e3⟩ := hQ3
  have N3 := Fr.app N1 N3q
  refine own_go (fun _ k => st3 _ k) ?_
  show own_Go _ _ _ _ T3 (mkF m 25 #[.val (.long q_1), .second, .val (.int p_2), .val (.int p_3), .val (.long ((q_1 >>> ((p_2 &&& (63 : Int32)) &&& 0x3f).toInt64) + (((p_3 &&& (3 : Int32)) - (1 : Int32)).toInt64))), .second] [(.int r4), (.int r2)])
  have hc5 : r2 = r4 := own_t0_0 q_1 p_2 p_3 r2 r4 hr_r2 hr_r4
  refine own_go (fun _ k => XS.icmpNo X3.here hx rfl (hb hby at_25) rfl (Jvm.Free.XT.ii_ne_f hc5) k) ?_
  show own_Go _ _ _ _ T3 (mkF m 28 #[.val (.long q_1), .second, .val (.int p_2), .val (.int p_3), .val (.long ((q_1 >>> ((p_2 &&& (63 : Int32)) &&& 0x3f).toInt64) + (((p_3 &&& (3 : Int32)) - (1 : Int32)).toInt64))), .second] [])
  refine own_go (fun _ k => XS.iconst X3.here hx rfl (hb hby at_28) k) ?_
  show own_Go _ _ _ _ T3 (mkF m 29 #[.val (.long q_1), .second, .val (.int p_2), .val (.int p_3), .val (.long ((q_1 >>> ((p_2 &&& (63 : Int32)) &&& 0x3f).toInt64) + (((p_3 &&& (3 : Int32)) - (1 : Int32)).toInt64))), .second] [(.int (1 : Int32))])
  refine own_go (fun _ k => XS.goto X3.here hx rfl (pc0 := 29) (pc' := 33) rfl (hb hby at_29) (by decide) (by decide) k) ?_
  show own_Go _ _ _ _ T3 (mkF m 33 #[.val (.long q_1), .second, .val (.int p_2), .val (.int p_3), .val (.long ((q_1 >>> ((p_2 &&& (63 : Int32)) &&& 0x3f).toInt64) + (((p_3 &&& (3 : Int32)) - (1 : Int32)).toInt64))), .second] [(.int (1 : Int32))])
  obtain ⟨fs, hr, hrun, hended, hW, hsame⟩ := X3.leave (v := some (.int (1 : Int32))) (fun h => by rw [Bd.returns] at h; cases h)
  refine ⟨_, _, retOut X3 hx Bd.returns rfl (Or.inl ⟨rfl, Or.inr (Or.inl rfl), _, rfl⟩) (hb hby at_33) hr, hrun, hended, _, _, rfl, ?_, ⟨_, rfl⟩, hW, hsame.mono (by decide) (by decide)⟩
  show own_Q0 Z q_1 p_2 p_3 h0 n0 _ T3.heap _
  rw [e3]
  exact ⟨rfl, N3⟩
set_option maxRecDepth 65536 in
set_option maxHeartbeats 40000000 in
theorem comes_1 {Post : Tables → Env → Array Value → State → Outcome → State → Prop} (hpost : ∀ tb e args s v u, (limb_1_1.after args s (.returned v) u = true ∧ limb_1_2.after args s (.returned v) u = true ∧ True) → FrameEnd s (.returned v) u (Jvm.fieldLocs frame_1_writes args s ++ Jvm.arrayLocs frame_1_arrays args s ++ Jvm.staticLocs frame_1_statics s) 0 0 → Post tb e args s (.returned v) u) :
    ArmFor flags0 classFile x code maxLocals ret World_1 tables_1 room_1 Calls_1 rest_1 Pre_1 Post := by
  intro l hfl _ _ p e ha hc hk s m args below hf hA hF happ hP
  obtain ⟨hcalls, hrest, hpre⟩ := hP
  obtain ⟨-, -, -, hnamed, -, -, -, hat⟩ := (Spec.applies_iff hf).mp happ
  obtain ⟨hg, hn⟩ := and_e (Cond.before_iff.mp (show (Jvm.Cond.and given_1 narrow_1).before args s = true from hpre))
  obtain ⟨g1, g2⟩ := and_e hg
  obtain ⟨g3, g4⟩ := and_e g2
  obtain ⟨g5, g6⟩ := and_e g4
  obtain ⟨w0, w1, w2, rfl⟩ : ∃ w0 w1 w2 : Value, args = #[w0, w1, w2] := by
    have hs : args.size = 3 := by simpa [Cond.value, given_1] using g1
    obtain ⟨L⟩ := args
    match L, hs with
    | [w0, w1, w2], _ => exact ⟨w0, w1, w2, rfl⟩
  have hw := fun d (hd : d ∈ tables_1) => atoms_spec (ws := Jvm.Cond.code x code maxLocals ret :: tables_1) hat d (List.mem_cons_of_mem _ hd)
  have hfit : Fit s := fun {y c} hc i hi => by
    obtain ⟨ha, rfl⟩ := Array.getElem?_eq_some_iff.mp hc
    have q := List.all_eq_true.mp ((Array.all_eq_true_iff_forall_mem.mp hF) _ (Array.getElem_mem ha)) i (List.mem_range.mpr hi)
    simpa [Array.getElem?_eq_getElem hi] using q
  obtain ⟨i0, ei0⟩ := isL_v g3
  obtain rfl : w0 = (.long i0) := Option.some.inj ei0
  obtain ⟨i1, ei1⟩ := is_v g5
  obtain rfl : w1 = (.int i1) := Option.some.inj ei1
  obtain ⟨i2, ei2⟩ := is_v g6
  obtain rfl : w2 = (.int i2) := Option.some.inj ei2
  obtain ⟨n, o, h1, h2, h3, _, L, rfl, ⟨rfl, N⟩, hq⟩ := own_rm0 l s _ hw tables_1 i0 i1 i2  s.heap s.heap.size (Nat.le_refl _)  p e ha hc hk s m _ below hf ((Spec.applies_iff_loose hf).mp happ).1 ⟨rfl, State.Warmed39.refl s, rfl⟩ trivial
  refine ⟨n, _, h1, h2, h3, hpost _ _ _ _ _ _ ⟨Cond.after_iff.mpr rfl, Cond.after_iff.mpr (eq_i res_at (Term.int_eval (1)) rfl), trivial⟩ ⟨hq.1, hq.2.1, (hq.2.2.sift fun y hy => Or.inr (N y hy)).mono (by decide) (by decide)⟩⟩
theorem main_1_1 : Claimed_1_1 := comes_1 fun _ _ _ _ _ _ h hF => ⟨h.1, hF⟩
theorem main_1_2 : Claimed_1_2 := comes_1 fun _ _ _ _ _ _ h hF => ⟨h.2.1, hF⟩
end Jvm.Pilot.@@N@@
namespace Jvm.Pilot.@@N@@
open Jvm Jvm.ClassFile Sem Op Lib Jvm.Free Jvm.Stand Jvm.Pilot.@@N@@.Jvm.D
/-! MADE BY PROGRAM (witnessworld.py) out of the Statement's table words and the real class files: 9 classes; the members and pool entries that the words name. The judged class is class 1, her method 2. -/
namespace start1
open Jvm.ClassFile
def u (s : String) : CpInfo := .utf8 (stringToUtf16 s)
/-- a pool by its gaps: so many unusable entries, then the entry; so many at the end -/
def gap : Nat → List CpInfo → List CpInfo
  | 0, r => r
  | n + 1, r => .unusable :: gap n r
def poolList (es : List (Nat × CpInfo)) (last : Nat) : List CpInfo := es.foldr (fun e r => gap e.1 (e.2 :: r)) (gap last [])
def pool (es : List (Nat × CpInfo)) (last : Nat) : Array CpInfo := ⟨poolList es last⟩
def fileOf (pool : Array CpInfo) (this : Nat) (attrs : Array Attribute := #[]) (ms : Array MethodInfo := #[]) (fl : Nat := 33) (sup : Nat := 0) (ifs : Array Nat := #[]) (fds : Array FieldInfo := #[]) : ClassFile where
  minorVersion := 0
  majorVersion := 65
  constantPool := pool
  accessFlags := fl
  thisClass := this
  superClass := sup
  interfaces := ifs
  fields := fds
  methods := ms
  attributes := attrs
def plain (name : String) (sup : Option ClassId) : Class where
  name := name
  kind := .ordinary
  loader := none
  accessFlags := 33
  super := sup
  interfaces := #[]
  cf := none
  fields := #[]
  methods := #[]
  instanceTypes := #[]
  staticTypes := #[]
  resolved := #[]
  callSites := []
  init := .initialized
  statics := none
  mirror := none

def pool0 : Array CpInfo := pool [(5, u "<init>"), (0, u "()V"), (1, .class_ 10), (1, u "java/lang/Object")] 113

def k0m0 : Method := { name := "<init>", desc := "()V", sig := { parameters := [], returnType := none }, accessFlags := 1, code := none }
/-- java/lang/Object -/
def k0 : Class := { plain "java/lang/Object" none with
  accessFlags := 33
  interfaces := #[]
  cf := some (fileOf pool0 8 #[] #[{ accessFlags := 1, nameIndex := 5, descriptorIndex := 6, attributes := #[] }] 33 0 #[] #[])
  fields := #[]
  methods := #[k0m0]
  instanceTypes := #[]
  staticTypes := #[]
  resolved := Array.replicate 124 none
  statics := none }

def pool1 : Array CpInfo := pool [(2, .class_ 4), (1, u "java/lang/Object"), (0, u "<init>"), (0, u "()V"), (0, .long 18446744073709551488), (1, .long 127), (1, .long 18446744073709518848), (1, .long 32767), (1, .long 18446744071562067968), (1, .long 2147483647), (1, .methodref 20 21), (0, .class_ 22), (0, .nameAndType 23 24), (0, u "com/example/bytewright/bytewright/codec/Tag"), (0, u "shortestForm"), (0, u "(J)I"), (0, .methodref 26 27), (0, .class_ 28), (0, .nameAndType 29 24), (0, u "com/example/bytewright/bytewright/codec/TagShortestFormPinLaw"), (0, u "expected"), (3, u "law"), (0, u "(JII)Z")] 2

def k1m0 : Method := { name := "<init>", desc := "()V", sig := { parameters := [], returnType := none }, accessFlags := 2, code := none }
def k1c1 : Code := { maxStack := 4, maxLocals := 2, code := method_2_code, exceptionTable := #[], attributes := #[] }
def k1m1 : Method := { name := "expected", desc := "(J)I", sig := { parameters := [.long], returnType := some .int }, accessFlags := 10, code := some k1c1 }
def k1c2 : Code := { maxStack := 4, maxLocals := 6, code := code, exceptionTable := #[], attributes := #[] }
def k1m2 : Method := { name := "law", desc := "(JII)Z", sig := { parameters := [.long, .int, .int], returnType := some .boolean }, accessFlags := 9, code := some k1c2 }
/-- com/example/bytewright/bytewright/codec/TagShortestFormPinLaw -/
def k1 : Class := { plain "com/example/bytewright/bytewright/codec/TagShortestFormPinLaw" (some 0) with
  accessFlags := 49
  interfaces := #[]
  cf := some (fileOf pool1 26 #[] #[{ accessFlags := 2, nameIndex := 5, descriptorIndex := 6, attributes := #[] }, { accessFlags := 10, nameIndex := 29, descriptorIndex := 24, attributes := #[] }, { accessFlags := 9, nameIndex := 33, descriptorIndex := 34, attributes := #[] }] 49 2 #[] #[])
  fields := #[]
  methods := #[k1m0, k1m1, k1m2]
  instanceTypes := #[]
  staticTypes := #[]
  resolved := Array.replicate 37 none
  statics := none }

def pool2 : Array CpInfo := pool [(2, .class_ 4), (1, u "java/lang/Object"), (0, u "<init>"), (0, u "()V"), (13, .class_ 22), (1, u "com/example/bytewright/bytewright/codec/Tag"), (0, u "SHORT"), (0, u "Ljava/lang/invoke/VarHandle;"), (8, u "INT"), (5, u "LONG"), (23, u "INTEGER"), (0, u "I"), (2, u "STRING"), (1, u "BYTES"), (1, u "OBJECT"), (1, u "OBJECT_END"), (1, u "ARRAY"), (1, u "ARRAY_END"), (1, u "TRUE"), (1, u "FALSE"), (1, u "DOUBLE"), (1, u "DOUBLE_FORM"), (5, u "shortestForm"), (0, u "(J)I")] 9

def k2m0 : Method := { name := "<init>", desc := "()V", sig := { parameters := [], returnType := none }, accessFlags := 2, code := none }
def k2c1 : Code := { maxStack := 4, maxLocals := 2, code := prog_14_method_3_code, exceptionTable := #[], attributes := #[] }
def k2m1 : Method := { name := "shortestForm", desc := "(J)I", sig := { parameters := [.long], returnType := some .int }, accessFlags := 8, code := some k2c1 }
/-- com/example/bytewright/bytewright/codec/Tag -/
def k2 : Class := { plain "com/example/bytewright/bytewright/codec/Tag" (some 0) with
  accessFlags := 48
  interfaces := #[]
  cf := some (fileOf pool2 20 #[] #[{ accessFlags := 2, nameIndex := 5, descriptorIndex := 6, attributes := #[] }, { accessFlags := 8, nameIndex := 91, descriptorIndex := 92, attributes := #[] }] 48 2 #[] #[{ accessFlags := 24, nameIndex := 63, descriptorIndex := 64, attributes := #[] }, { accessFlags := 24, nameIndex := 67, descriptorIndex := 64, attributes := #[] }, { accessFlags := 24, nameIndex := 69, descriptorIndex := 64, attributes := #[] }, { accessFlags := 24, nameIndex := 71, descriptorIndex := 64, attributes := #[] }, { accessFlags := 24, nameIndex := 73, descriptorIndex := 64, attributes := #[] }, { accessFlags := 24, nameIndex := 75, descriptorIndex := 64, attributes := #[] }, { accessFlags := 24, nameIndex := 77, descriptorIndex := 64, attributes := #[] }, { accessFlags := 24, nameIndex := 79, descriptorIndex := 64, attributes := #[] }, { accessFlags := 24, nameIndex := 81, descriptorIndex := 64, attributes := #[] }, { accessFlags := 24, nameIndex := 83, descriptorIndex := 64, attributes := #[] }, { accessFlags := 24, nameIndex := 85, descriptorIndex := 64, attributes := #[] }, { accessFlags := 26, nameIndex := 23, descriptorIndex := 24, attributes := #[] }, { accessFlags := 26, nameIndex := 33, descriptorIndex := 24, attributes := #[] }, { accessFlags := 26, nameIndex := 39, descriptorIndex := 24, attributes := #[] }])
  fields := #[{ name := "INTEGER", type := .int, accessFlags := 24, slot := 0, constantValue := 0 }, { name := "STRING", type := .int, accessFlags := 24, slot := 1, constantValue := 0 }, { name := "BYTES", type := .int, accessFlags := 24, slot := 2, constantValue := 0 }, { name := "OBJECT", type := .int, accessFlags := 24, slot := 3, constantValue := 0 }, { name := "OBJECT_END", type := .int, accessFlags := 24, slot := 4, constantValue := 0 }, { name := "ARRAY", type := .int, accessFlags := 24, slot := 5, constantValue := 0 }, { name := "ARRAY_END", type := .int, accessFlags := 24, slot := 6, constantValue := 0 }, { name := "TRUE", type := .int, accessFlags := 24, slot := 7, constantValue := 0 }, { name := "FALSE", type := .int, accessFlags := 24, slot := 8, constantValue := 0 }, { name := "DOUBLE", type := .int, accessFlags := 24, slot := 9, constantValue := 0 }, { name := "DOUBLE_FORM", type := .int, accessFlags := 24, slot := 10, constantValue := 0 }, { name := "SHORT", type := (.object "java/lang/invoke/VarHandle"), accessFlags := 26, slot := 11, constantValue := 0 }, { name := "INT", type := (.object "java/lang/invoke/VarHandle"), accessFlags := 26, slot := 12, constantValue := 0 }, { name := "LONG", type := (.object "java/lang/invoke/VarHandle"), accessFlags := 26, slot := 13, constantValue := 0 }]
  methods := #[k2m0, k2m1]
  instanceTypes := #[]
  staticTypes := #[.int, .int, .int, .int, .int, .int, .int, .int, .int, .int, .int, (.object "java/lang/invoke/VarHandle"), (.object "java/lang/invoke/VarHandle"), (.object "java/lang/invoke/VarHandle")]
  resolved := Array.replicate 102 none
  statics := none }

def pool3 : Array CpInfo := pool [(1, u "java/lang/Cloneable"), (0, .class_ 1), (0, u "java/lang/Object"), (0, .class_ 3)] 3

/-- java/lang/Cloneable -/
def k3 : Class := { plain "java/lang/Cloneable" (some 0) with
  accessFlags := 1537
  interfaces := #[]
  cf := some (fileOf pool3 2 #[] #[] 1537 4 #[] #[])
  fields := #[]
  methods := #[]
  instanceTypes := #[]
  staticTypes := #[]
  resolved := Array.replicate 8 none
  statics := none }

def pool4 : Array CpInfo := pool [(1, u "java/io/Serializable"), (0, .class_ 1), (0, u "java/lang/Object"), (0, .class_ 3)] 3

/-- java/io/Serializable -/
def k4 : Class := { plain "java/io/Serializable" (some 0) with
  accessFlags := 1537
  interfaces := #[]
  cf := some (fileOf pool4 2 #[] #[] 1537 4 #[] #[])
  fields := #[]
  methods := #[]
  instanceTypes := #[]
  staticTypes := #[]
  resolved := Array.replicate 8 none
  statics := none }

/-- the primitive byte -/
def k5 : Class := { plain "byte" none with kind := .primitive 'B', accessFlags := 0x411 }
/-- [B -/
def k6 : Class := { plain "[B" (some 0) with kind := .array 5 .byte, interfaces := #[3, 4], accessFlags := 1041 }

/-- the primitive int -/
def k7 : Class := { plain "int" none with kind := .primitive 'I', accessFlags := 0x411 }
/-- [I -/
def k8 : Class := { plain "[I" (some 0) with kind := .array 7 .int, interfaces := #[3, 4], accessFlags := 1041 }

def heap : Heap := #[]
def classes : Array Class := #[k0, k1, k2, k3, k4, k5, k6, k7, k8]
def interned : List (Array UInt16 × Addr) := []
def slotsUsed : Nat := 0
def theMethod : MethodId := ⟨1, 2⟩
def args0 : Array Value := #[.long 5, .int 5, .int 5]
def aboutOver (below : List Frame) : State where
  vm := { classes := classes, interned := interned.toArray }
  heap := heap
  slotsUsed := slotsUsed
  threads := #[{ frames := .invoking theMethod args0 :: below }]
def below0 : List Frame := [.native { method := ⟨0, 0⟩, args := #[] }]
def about1 : State := aboutOver below0
def p0 : Program := .bare "" "" ""
def e0 : Env := launch0.env 0 0 0
theorem w_frames : about1.frames = Frame.invoking theMethod args0 :: below0 := rfl
set_option maxRecDepth 65536 in
theorem w_args : argsFit about1.vm theMethod args0 = true := by decide +kernel
set_option maxRecDepth 65536 in
theorem w_heap : heapFits about1 = true := by decide +kernel
set_option maxRecDepth 65536 in
theorem w_runnable : about1.curStatus? = some .runnable := by decide +kernel
set_option maxRecDepth 65536 in
theorem w_alone : about1.alone = true := by decide +kernel
set_option maxRecDepth 65536 in
theorem w_named : about1.methodNamed? x = some theMethod := by decide +kernel
set_option maxRecDepth 65536 in
theorem w_hears : about1.hears theMethod below0 = true := by decide +kernel
set_option maxRecDepth 65536 in
theorem w_ripe : about1.ripe theMethod args0 below0 = true := by decide +kernel
theorem w_running : about1.status = .running := rfl
set_option maxRecDepth 65536 in
theorem w_room : about1.hasRoom e0.platform room_1 = true :=
  launch0.hasRoom_least _ room_1 (by decide +kernel) (by decide +kernel) (by decide +kernel) (by decide +kernel) (by decide +kernel) (by decide +kernel)
theorem allAtoms_all (ts : List Jvm.Cond) (a : Array Jvm.Value) (st : Jvm.State) : (allAtoms ts).before a st = ts.all (fun c => c.before a st) := by
  induction ts with
  | nil => rfl
  | cons c t ih =>
    show (Jvm.Cond.and c (allAtoms t)).before a st = _
    rw [Jvm.Cond.before_and, ih, List.all_cons]
def words1 : List Jvm.Cond := Jvm.Cond.code x code maxLocals ret :: tables_1
/-- a 'code' word, met by the world's own term for the bytes: nothing is compared byte by byte -/
theorem code_word {y : MethodName} {bytes : ByteArray} {mx : Nat} {rt : Option FieldType} {a : Array Value} {s : State} {m : MethodId} {meth : Method} {c : Code} (h1 : s.methodNamed? y = some m) (h2 : s.vm.method? m = some meth) (h3 : meth.code = some c) (h4 : c.code = bytes)
    (h5 : (c.maxLocals == mx && c.exceptionTable.isEmpty && decide (c.maxStack ≤ mostOperands) && decide (meth.sig.returnType = rt) && !meth.locks && decide (parseMethodDescriptor y.desc = some meth.sig)) = true) : (Jvm.Cond.code y bytes mx rt).before a s = true := by
  simp only [Bool.and_eq_true, beq_iff_eq, Bool.not_eq_true', decide_eq_true_eq] at h5
  obtain ⟨⟨⟨⟨⟨g1, g2⟩, g3⟩, g4⟩, g5⟩, g6⟩ := h5
  simp [Cond.before, Cond.holds, Cond.value, h1, h2, h3, h4, g1, g2, g3, g4, g5, g6]
def isCode : Jvm.Cond → Bool
  | .code _ _ _ _ => true
  | _ => false
theorem all_split {L : List Jvm.Cond} {P : Jvm.Cond → Bool} (h1 : L.all (fun c => isCode c || P c) = true) (h2 : ∀ c ∈ L.filter isCode, P c = true) : L.all P = true := by
  refine List.all_eq_true.mpr fun c hc => ?_
  have h := List.all_eq_true.mp h1 c hc
  rcases Bool.eq_false_or_eq_true (isCode c) with hi | hi
  · exact h2 c (List.mem_filter.mpr ⟨hc, hi⟩)
  · simpa [hi] using h
set_option maxRecDepth 65536 in
theorem w_c0 : (Jvm.Cond.code x code maxLocals ret).before args0 about1 = true := code_word (m := ⟨1, 2⟩) (meth := k1m2) (c := k1c2) (by decide +kernel) rfl rfl rfl (by decide +kernel)
set_option maxRecDepth 65536 in
theorem w_c1 : (Jvm.Cond.code ({ cls := "com/example/bytewright/bytewright/codec/Tag", name := "shortestForm", desc := "(J)I" } : Jvm.MethodName) prog_14_method_3_code (2 : Nat) (Option.some Jvm.ClassFile.FieldType.int)).before args0 about1 = true := code_word (m := ⟨2, 1⟩) (meth := k2m1) (c := k2c1) (by decide +kernel) rfl rfl rfl (by decide +kernel)
set_option maxRecDepth 65536 in
theorem w_c2 : (Jvm.Cond.code ({ cls := "com/example/bytewright/bytewright/codec/TagShortestFormPinLaw", name := "expected", desc := "(J)I" } : Jvm.MethodName) method_2_code (2 : Nat) (Option.some Jvm.ClassFile.FieldType.int)).before args0 about1 = true := code_word (m := ⟨1, 1⟩) (meth := k1m1) (c := k1c1) (by decide +kernel) rfl rfl rfl (by decide +kernel)
def codes1 : List Jvm.Cond := [Jvm.Cond.code x code maxLocals ret, Jvm.Cond.code ({ cls := "com/example/bytewright/bytewright/codec/Tag", name := "shortestForm", desc := "(J)I" } : Jvm.MethodName) prog_14_method_3_code (2 : Nat) (Option.some Jvm.ClassFile.FieldType.int), Jvm.Cond.code ({ cls := "com/example/bytewright/bytewright/codec/TagShortestFormPinLaw", name := "expected", desc := "(J)I" } : Jvm.MethodName) method_2_code (2 : Nat) (Option.some Jvm.ClassFile.FieldType.int)]
set_option maxRecDepth 65536 in
theorem codes_eq : words1.filter isCode = codes1 := rfl
theorem w_codes : ∀ c ∈ words1.filter isCode, c.before args0 about1 = true := by
  rw [codes_eq]
  intro c hc
  simp only [codes1, List.mem_cons, List.not_mem_nil, or_false] at hc
  rcases hc with rfl | rfl | rfl
  · exact w_c0
  · exact w_c1
  · exact w_c2
set_option maxRecDepth 65536 in
theorem w_t1 : words1.all (fun c => isCode c || c.before args0 about1) = true := by decide +kernel
theorem w_tables : (allAtoms (Jvm.Cond.code x code maxLocals ret :: tables_1)).before args0 about1 = true := by
  rw [allAtoms_all]
  show words1.all (fun c => c.before args0 about1) = true
  refine all_split ?_ w_codes
  rw [w_t1]
set_option maxRecDepth 65536 in
theorem w_case : (Jvm.Cond.and given_1 narrow_1).before args0 about1 = true := by decide +kernel
theorem w_applies : (headSpec (Jvm.Cond.code x code maxLocals ret :: tables_1) room_1).applies x e0.platform about1 = true :=
  (Spec.applies_iff w_frames).mpr ⟨w_running, w_runnable, w_alone, w_named, w_hears, w_ripe, w_room, w_tables⟩
theorem atStart : AtStart classFile x code maxLocals ret World_1 tables_1 room_1 Calls_1 rest_1 Pre_1 launch0 p0 e0 about1 theMethod args0 below0 :=
  ⟨lists_1, trivial, launch0.admits_env _ _ _, launch0.least_env, fairChoices_fair.cas, fairChoices_fair.clock, w_frames, w_args, w_heap, w_applies, trivial, trivial, w_case⟩
end start1
theorem witness_1 : WitnessClaimed_1 := ⟨start1.p0, start1.e0, start1.about1, start1.theMethod, start1.args0, start1.below0, start1.atStart⟩
end Jvm.Pilot.@@N@@
