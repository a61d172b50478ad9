import JvmDerived
import JvmDerived.Pilot.@@N@@Statement
import JvmDerived.Pilot.@@N@@Code
set_option linter.unusedVariables false
set_option linter.unusedSimpArgs false
namespace Jvm.Pilot.@@N@@
open Jvm Jvm.ClassFile Sem Op Lib Jvm.Free Jvm.Stand Jvm.LawKit Jvm.RoadKit Bundle Jvm.Pilot.@@N@@.Jvm.D
def own_Go (tb : Tables) (e : Env) (below : List Frame) (P : State → Outcome → Prop) (T : State) (g : JFrame) : Prop := ∃ t o, Steps tb e below (T.setTop g) t ∧ P t o
theorem own_go {tb : Tables} {e : Env} {below : List Frame} {P : State → Outcome → Prop} {T T' : State} {g g' : JFrame} (k : ∀ target, Steps tb e below (T'.setTop g') target → Steps tb e below (T.setTop g) target) (h : own_Go tb e below P T' g') : own_Go tb e below P T g := by
  obtain ⟨t, o, a, b⟩ := h
  exact ⟨t, o, k t a, b⟩
theorem own_cast {P Q : Prop} (h : P = Q) (p : P) : Q := h ▸ p
def own_upd (f : Nat → Value) (k : Nat) (v : Value) : Nat → Value := fun i => if i = k then v else f i
/-- an array of length z at a, its element i being f i -/
def own_AV (Z : State) (h : Heap) (a : Addr) (ty : FieldType) (z : Int32) (f : Nat → Value) : Prop := ¬ z < 0 ∧ ∃ c : Cell, Arr Z h a c ty ∧ c.slots.size = z.toNatClampNeg ∧ ∀ i, i < c.slots.size → c.slots[i]? = some (f i)
section
variable {Z : State} {h h' : Heap} {a b : Addr} {ty : FieldType} {z j : Int32} {f : Nat → Value} {v w : Value} {sl k : Nat} {ws : List Addr} {cA : ClassId}
theorem own_AV.lt (F : own_AV Z h a ty z f) : a < h.size := by obtain ⟨_, c, A, -⟩ := F; exact A.lt
theorem own_AV.ext (F : own_AV Z h a ty z f) (E : Ext h h') : own_AV Z h' a ty z f := by obtain ⟨q, c, A, r⟩ := F; exact ⟨q, c, A.ext E, r⟩
theorem own_AV.other (F : own_AV Z h b ty z f) (W : Wr h h' a sl v) (q : b ≠ a) : own_AV Z h' b ty z f := by obtain ⟨q1, c, A, r⟩ := F; exact ⟨q1, c, A.other W q, r⟩
theorem own_AV.keep (F : own_AV Z h a ty z f) (K : Keep h h' ws) (q : a ∉ ws) : own_AV Z h' a ty z f := by obtain ⟨q1, c, A, r⟩ := F; exact ⟨q1, c, ⟨K.2.1 a c A.1 q, A.2⟩, r⟩
theorem own_AV.new (A : Arr Z h a (newA cA ty z) ty) (q : ¬ z < 0) : own_AV Z h a ty z (fun _ => defaultValue ty) :=
  ⟨q, _, A, sz_new _ _ _, fun i hi => by
    rw [sz_new] at hi
    simp [newA, hi]⟩
theorem own_AV.set (F : own_AV Z h a ty z f) (W : Wr h h' a j.toNatClampNeg v) (hk : j.toNatClampNeg = k) : own_AV Z h' a ty z (own_upd f k v) := by
  obtain ⟨q, c, A, s, t⟩ := F
  subst hk
  refine ⟨q, _, A.same W, by rw [sz_set]; exact s, fun i hi => ?_⟩
  rw [sz_set] at hi
  by_cases e : i = j.toNatClampNeg
  · subst e; simp [own_upd, Cell.setSlot, hi]
  · simp only [own_upd, if_neg e, Cell.setSlot]
    rw [Array.getElem?_setIfInBounds_ne (Ne.symm e)]; exact t i hi
theorem own_at {c : Cell} (t : ∀ i, i < c.slots.size → c.slots[i]? = some (f i)) (s : c.slots.size = z.toNatClampNeg) (hin : ¬ (j < 0 ∨ c.slots.size ≤ j.toNatClampNeg)) (hk : j.toNatClampNeg = k) (hv : f k = v) : c.slots[j.toNatClampNeg]? = some v := by
  rw [t _ (Nat.lt_of_not_le fun q => hin (Or.inr q)), hk, hv]
theorem own_sta_keep {C n d : String} (F : Sta Z h C n d w) (K : Keep h h' ws) (q : ∀ x ∈ ws, ∀ c : Cell, h[x]? = some c → c.vm.isStatics = false) : Sta Z h' C n d w := by
  obtain ⟨cf, i, k, f, st, cell, h1, h2, h3, h4, h5, h6, h7⟩ := F
  exact ⟨cf, i, k, f, st, cell, h1, h2, h3, h4, K.2.1 st cell h5 (fun m => by rw [q st m cell h5] at h6; cases h6), h6, h7⟩
theorem own_exa_plain {C : String} (F : Exa Z h a C) : ∀ c : Cell, h[a]? = some c → c.vm.isStatics = false := fun c hc => by
  obtain ⟨c1, k, h1, -, -, h4, -⟩ := F; cases h1.symm.trans hc; exact h4
theorem own_AV.plain (F : own_AV Z h a ty z f) : ∀ c : Cell, h[a]? = some c → c.vm.isStatics = false := fun c hc => by
  obtain ⟨_, c1, A, -⟩ := F; cases A.1.symm.trans hc; exact A.plain
end
theorem own_narb {x : Int32} (h : x = 0 ∨ x = 1) : nar .boolean x = x := by rcases h with rfl | rfl <;> rfl
theorem own_exa_ref {args : Array Value} {s : State} {t : Term} {C : String} (hx : (Jvm.Cond.exactly t C).value args s none s [] = some true) : ∃ a, t.eval args s none [] s = some (.ref a) ∧ Exa s s.heap a C := by
  obtain ⟨a', c', cell, k, e1, -⟩ := Cond.exactly_spec (Cond.before_iff.mpr hx)
  exact ⟨a', e1, Exa.start e1 hx⟩
theorem own_eq_int {args : Array Value} {s : State} {t : Term} {k : Int32} (h : (Jvm.Cond.eq t (Jvm.Term.int k)).value args s none s [] = some true) : t.eval args s none [] s = some (.int k) := by
  cases hv : t.eval args s none [] s with
  | none => simp [Cond.value, hv] at h
  | some v => cases v <;> simp [Cond.value, hv, Term.eval] at h <;> simp [h]
theorem own_fld_int {args : Array Value} {s : State} {t : Term} {C n d : String} {a : Addr} {k : Int32} (ev : t.eval args s none [] s = some (.ref a)) (h : (Jvm.Cond.eq (Jvm.Term.field t C n d) (Jvm.Term.int k)).value args s none s [] = some true) : Fld s s.heap a C n d (.int k) :=
  Fld.start ((fld_at ev).symm.trans (own_eq_int h))
theorem own_nar_c (x : Int32) : nar .char (x.toUInt32.toUInt16.toUInt32.toInt32) = x.toUInt32.toUInt16.toUInt32.toInt32 := Value.int.inj (Jvm.Free.XT.narrow_c x)
theorem own_nar_b (x : Int32) : nar .byte (x.toInt8.toInt32) = x.toInt8.toInt32 := Value.int.inj (Jvm.Free.XT.narrow_b x)
theorem own_NSroot {Z : State} {a0 : Array Value} {O K : String} {n : Nat} (w : (Jvm.Cond.noSuperclass O).before a0 Z = true) (wk : (Jvm.Cond.instantiable K n).before a0 Z = true) (hn : O ≠ K) : NS Z O K := by
  obtain ⟨c, k, h1, h2, h3, -, -⟩ := Cond.noSuperclass_spec w
  obtain ⟨t, kt, g1, -⟩ := Cond.instantiable_spec wk
  have ne := ids_ne h1 g1 hn
  refine ⟨c, t, h1, g1, fun fuel => ?_⟩
  cases fuel with
  | zero => rfl
  | succ f => simp [Vm.isSubclassAux, ne, h2, h3]
theorem own_NSno {Z : State} {a0 : Array Value} {C S K : String} {m : Nat} (w : (Jvm.Cond.superclass C S).before a0 Z = true) (wk : (Jvm.Cond.instantiable K m).before a0 Z = true) (n : NS Z C K) (hn : C ≠ K) : ∃ c t, Z.vm.findClass C = some c ∧ Z.vm.findClass K = some t ∧ Z.vm.assignable c t = false := by
  obtain ⟨c, t, h0, g0, n3⟩ := n
  obtain ⟨p, k, kp, h1, h2, h3, h4, h5, -, h7⟩ := Cond.superclass_spec h0 w
  obtain ⟨t', k', g1, g2, g5, g7, -⟩ := Cond.instantiable_spec wk
  cases g0.symm.trans g1
  have g8 : k'.isInterface = false := by
    cases hi : k'.isInterface <;> simp [hi] at g7 ⊢
  have ne := ids_ne h0 g0 hn
  refine ⟨c, t, h0, g0, ?_⟩
  show Z.vm.assignableAux (255 + 1) c t = false
  simp [Vm.assignableAux, ne, h2, g2, h5, g5, g8, Vm.isSubclass, n3]
theorem own_monoW {s t : State} {o : Outcome} {L : List Loc} {k n k' n' : Nat} (h : ReturnedEndW s o t L k n) (hk : k ≤ k') (hn : n ≤ n') : ReturnedEndW s o t L k' n' := ⟨h.1, h.2.1, h.2.2.1, h.2.2.2.mono hk hn⟩
theorem own_ldcSL {p : Program} {l : Launch} {e : Env} {R : Room} {s : State} {vm0 : Vm} {m : MethodId} {args : Array Value} {below : List Frame} {meth : Method} {c : Code} {T : State} {locs : List Loc} {cells slots : Nat} {Z : State} {a0 : Array Value} {h : Heap}
    (X : Stand p l e R (s.setVm vm0) m args below meth c T locs cells slots) (hx : p.tables.exec = Jvm.exec) (hZ : Z.Warmed39 vm0) {own text : String} {index : Nat} (hown : vm0.findClass own = some m.cls) (w : (Jvm.Cond.stringLink own index text).before a0 Z = true) (wS : ∀ a ∈ Bundle.stringAtoms, a.before a0 Z = true)
    (eT : T.heap = h) {k0 : Nat} (hS : s.Since vm0 k0) (hk : k0 ≤ h.size) {g : JFrame} (hg : g.method = m) (hd : decode c.code g.pc = .ok (.ldc index, 2)) {n : Nat} (hn : 4 * text.toList.length ≤ n) (hbig : n ≤ 536870912) (hc : cells + 2 ≤ R.cells) (hl : slots + (n + 4) ≤ R.slots) :
    ∃ (a : Addr) (T' : State) (h' : Heap) (k1 : Nat), Stand p l e R (s.setVm T'.vm) m args below meth c T' locs (cells + 2) (slots + (n + 4)) ∧ T'.heap = h' ∧ Ext h h' ∧ s.Since T'.vm k1 ∧ k1 ≤ h'.size ∧ Z.Warmed39 (s.setVm T'.vm).vm ∧ (s.setVm T'.vm).vm.findClass own = some m.cls ∧ Lit (s.setVm T'.vm) own index a ∧ (s.setVm vm0).Warmed39 T'.vm ∧
      ∀ target, Steps p.tables e below (T'.setTop { g with pc := g.pc + 2, stack := .ref a :: g.stack }) target → Steps p.tables e below (T.setTop g) target := by
  have wS' : ∀ d ∈ Bundle.stringAtoms, d.before args (s.setVm vm0) = true := fun d hd => by
    have q := wS d hd
    simp only [Bundle.stringAtoms, List.mem_cons, List.not_mem_nil, or_false] at hd
    rcases hd with rfl | rfl | rfl | rfl | rfl | rfl | rfl
    · exact mv (s := s.setVm vm0) hZ q
    · exact mv (s := s.setVm vm0) hZ q
    · exact mvA (s := s.setVm vm0) hZ q
    · exact mv (s := s.setVm vm0) hZ q
    · exact mv (s := s.setVm vm0) hZ q
    · exact mv (s := s.setVm vm0) hZ q
    · exact mv (s := s.setVm vm0) hZ q
  obtain ⟨a, T', X', hS', ⟨kk, hkk, hrr⟩, hb, -, st⟩ := X.ldcStringCold hx (own := own) hown (mvS hZ w) wS' hg hd hn hbig hc hl
  subst eT
  have hf : T'.vm.findClass own = some m.cls := by rw [hS'.1.alike.findClass]; exact hown
  exact ⟨a, T', _, _, X', rfl, ext_of hb, hS.trans hS' (Nat.le_trans hk (ext_of hb).1), Nat.le_refl _, State.Warmed39.trans (t := s.setVm vm0) hZ hS'.1, hf, by simp [Lit, State.resolvedAt?, hf, hkk, hrr], hS'.1, st⟩
theorem own_selfsel {Z s : State} {a0 args : Array Value} {y : MethodName} {n : Nat} (hZ : Z.Warmed39 s.vm) (wi : (Jvm.Cond.instantiable y.cls n).before a0 Z = true) (wm : (Jvm.Cond.instanceMethod y).before a0 Z = true) (wp : (Jvm.Cond.privateMethod y).before a0 Z = true) (hy : y.cls ≠ "java/lang/invoke/MethodHandle" ∧ y.cls ≠ "java/lang/invoke/VarHandle") : (Jvm.Cond.selects y.cls y y).before args s = true := by
  obtain ⟨c, k, h1, h2, -, h4, -⟩ := Cond.instantiable_spec (mvT (args := args) hZ wi)
  have g8 : k.isInterface = false := by
    cases hi : k.isInterface <;> simp [hi] at h4 ⊢
  exact selects_self_of_private h1 h2 g8 (Cond.privateMethod_at (mvP hZ wp (args := #[]))) (mvT hZ wm) hy
theorem own_addeq {k a b m n : Nat} (h : k = a + b) (h1 : a = m) (h2 : m + b = n) : k = n := by subst h1; exact h.trans h2
theorem own_lt {a b : Nat} (h : a < b) : a < b := h
theorem own_ne {a b : Nat} (h : a < b ∨ b < a) : a ≠ b := by omega

theorem own_pn0 : plainName "com/example/honest_codec/honestcodec/Words" = true := by first | (simp [plainName, overriddenIn]; done) | decide +kernel
theorem own_pn1 : plainName "com/example/honest_codec/honestcodec/WordsPutLanesPinLaw" = true := by first | (simp [plainName, overriddenIn]; done) | decide +kernel
theorem own_pd0 : parseMethodDescriptor "(J[CI)V" = some ⟨[.long, (.array .char), .int], none⟩ := by decide +kernel
theorem own_d1_0 : decode prog_36_method_3_code 0 = .ok (.aload_n 2, 1) := by decide +kernel
theorem own_d1_1 : decode prog_36_method_3_code 1 = .ok (.iload_n 3, 1) := by decide +kernel
theorem own_d1_2 : decode prog_36_method_3_code 2 = .ok (.lload_n 0, 1) := by decide +kernel
theorem own_d1_3 : decode prog_36_method_3_code 3 = .ok (.l2i, 1) := by decide +kernel
theorem own_d1_4 : decode prog_36_method_3_code 4 = .ok (.i2c, 1) := by decide +kernel
theorem own_d1_5 : decode prog_36_method_3_code 5 = .ok (.castore, 1) := by decide +kernel
theorem own_d1_6 : decode prog_36_method_3_code 6 = .ok (.aload_n 2, 1) := by decide +kernel
theorem own_d1_7 : decode prog_36_method_3_code 7 = .ok (.iload_n 3, 1) := by decide +kernel
theorem own_d1_8 : decode prog_36_method_3_code 8 = .ok (.iconst 1, 1) := by decide +kernel
theorem own_d1_9 : decode prog_36_method_3_code 9 = .ok (.iadd, 1) := by decide +kernel
theorem own_d1_10 : decode prog_36_method_3_code 10 = .ok (.lload_n 0, 1) := by decide +kernel
theorem own_d1_11 : decode prog_36_method_3_code 11 = .ok (.bipush 16, 2) := by decide +kernel
theorem own_d1_13 : decode prog_36_method_3_code 13 = .ok (.lushr, 1) := by decide +kernel
theorem own_d1_14 : decode prog_36_method_3_code 14 = .ok (.l2i, 1) := by decide +kernel
theorem own_d1_15 : decode prog_36_method_3_code 15 = .ok (.i2c, 1) := by decide +kernel
theorem own_d1_16 : decode prog_36_method_3_code 16 = .ok (.castore, 1) := by decide +kernel
theorem own_d1_17 : decode prog_36_method_3_code 17 = .ok (.aload_n 2, 1) := by decide +kernel
theorem own_d1_18 : decode prog_36_method_3_code 18 = .ok (.iload_n 3, 1) := by decide +kernel
theorem own_d1_19 : decode prog_36_method_3_code 19 = .ok (.iconst 2, 1) := by decide +kernel
theorem own_d1_20 : decode prog_36_method_3_code 20 = .ok (.iadd, 1) := by decide +kernel
theorem own_d1_21 : decode prog_36_method_3_code 21 = .ok (.lload_n 0, 1) := by decide +kernel
theorem own_d1_22 : decode prog_36_method_3_code 22 = .ok (.bipush 32, 2) := by decide +kernel
theorem own_d1_24 : decode prog_36_method_3_code 24 = .ok (.lushr, 1) := by decide +kernel
theorem own_d1_25 : decode prog_36_method_3_code 25 = .ok (.l2i, 1) := by decide +kernel
theorem own_d1_26 : decode prog_36_method_3_code 26 = .ok (.i2c, 1) := by decide +kernel
theorem own_d1_27 : decode prog_36_method_3_code 27 = .ok (.castore, 1) := by decide +kernel
theorem own_d1_28 : decode prog_36_method_3_code 28 = .ok (.aload_n 2, 1) := by decide +kernel
theorem own_d1_29 : decode prog_36_method_3_code 29 = .ok (.iload_n 3, 1) := by decide +kernel
theorem own_d1_30 : decode prog_36_method_3_code 30 = .ok (.iconst 3, 1) := by decide +kernel
theorem own_d1_31 : decode prog_36_method_3_code 31 = .ok (.iadd, 1) := by decide +kernel
theorem own_d1_32 : decode prog_36_method_3_code 32 = .ok (.lload_n 0, 1) := by decide +kernel
theorem own_d1_33 : decode prog_36_method_3_code 33 = .ok (.bipush 48, 2) := by decide +kernel
theorem own_d1_35 : decode prog_36_method_3_code 35 = .ok (.lushr, 1) := by decide +kernel
theorem own_d1_36 : decode prog_36_method_3_code 36 = .ok (.l2i, 1) := by decide +kernel
theorem own_d1_37 : decode prog_36_method_3_code 37 = .ok (.i2c, 1) := by decide +kernel
theorem own_d1_38 : decode prog_36_method_3_code 38 = .ok (.castore, 1) := by decide +kernel
theorem own_d1_39 : decode prog_36_method_3_code 39 = .ok (.return_, 1) := by decide +kernel
theorem own_ef_own_rm1_0 (m : MethodId) (x0 : Int64) (x1 : Addr) : entryFrame m #[(.long x0), (.ref x1), (.int (0 : Int32))] 4 = mkF m 0 #[.val (.long x0), .second, .val (.ref x1), .val (.int (0 : Int32))] [] := by first | (simp [entryFrame, mkF, argsToLocals, Value.category]; done) | rfl
def own_Q1_0 (Z : State) (q_1 : Int64) (a_2 : Addr) (g_ : Nat → Value) (h0 : Heap) (n0 : Nat) (v : Option Value) (h : Heap) (L : List Loc) : Prop := v = none ∧ Fr n0 L ∧ Keep h0 h [a_2] ∧ own_AV Z h a_2 .char (6 : Int32) (own_upd (own_upd (own_upd (own_upd g_ 0 (.int ((q_1.toInt32).toUInt32.toUInt16.toUInt32.toInt32))) 1 (.int ((((q_1.toUInt64 >>> ((16 : Int32) &&& 0x3f).toInt64.toUInt64).toInt64).toInt32).toUInt32.toUInt16.toUInt32.toInt32))) 2 (.int ((((q_1.toUInt64 >>> ((32 : Int32) &&& 0x3f).toInt64.toUInt64).toInt64).toInt32).toUInt32.toUInt16.toUInt32.toInt32))) 3 (.int ((((q_1.toUInt64 >>> ((48 : Int32) &&& 0x3f).toInt64.toUInt64).toInt64).toInt32).toUInt32.toUInt16.toUInt32.toInt32)))
set_option maxRecDepth 65536 in
set_option maxHeartbeats 40000000 in
theorem own_rm1_0 (l : Launch) (Z : State) (a0 : Array Value) (hw : ∀ d ∈ tables_1, d.before a0 Z = true) (ws : List Jvm.Cond) (q_1 : Int64) (a_2 : Addr) (g_ : Nat → Value) (h0 : Heap) (n0 : Nat) (Z0 : n0 ≤ h0.size) (pr_A_a_2 : own_AV Z h0 a_2 .char (6 : Int32) g_) (gw_a_2 : n0 ≤ a_2) :
    MetFree l (⟨"com/example/honest_codec/honestcodec/Words", "putLanes", "(J[CI)V"⟩ : MethodName) (head1 (Jvm.Cond.code (⟨"com/example/honest_codec/honestcodec/Words", "putLanes", "(J[CI)V"⟩ : MethodName) prog_36_method_3_code 4 none :: ws) ({ frames := 0, cells := 0, slots := 0, locals := 0 } : Room)) (fun a U => a = #[(.long q_1), (.ref a_2), (.int (0 : Int32))] ∧ Z.Warmed39 U.vm ∧ U.heap = h0) (fun _ _ _ _ _ => True) (fun _ U o U' => ∃ v L, o = .returned v ∧ own_Q1_0 Z q_1 a_2 g_ h0 n0 v U'.heap L ∧ FrameEnd U o U' L ({ frames := 0, cells := 0, slots := 0, locals := 0 } : Room).cells ({ frames := 0, cells := 0, slots := 0, locals := 0 } : Room).slots) := by
  refine MetFree.of_bodySF (plainFor_of_name own_pn0) hisR ?_
  intro p e s m args below meth c s₁ Bd hml0 hP hK
  obtain ⟨rfl, hZ, hh⟩ := hP
  have hx := Bd.exec
  have hby := Bd.bytes
  have hml : c.maxLocals = 4 := hml0
  have hown : s.vm.findClass "com/example/honest_codec/honestcodec/Words" = some m.cls := findClass_of_methodNamed Bd.named
  have hnm := (name_of_methodNamed Bd.named Bd.method).1
  have X0 : Stand p l e ({ frames := 0, cells := 0, slots := 0, locals := 0 } : Room) s m #[(.long q_1), (.ref a_2), (.int (0 : Int32))] below meth c s₁ [] 0 0 := Stand.of_body Bd
  have e0 : s₁.heap = h0 := by rw [← hh, Bd.state]; rfl
  have N0 := Fr.nil n0
  have z0 : n0 ≤ h0.size := Z0
  have z1 := own_lt pr_A_a_2.lt
  have K0 : Keep h0 h0 [a_2] := Keep.refl h0 _
  show own_Go p.tables e below (fun t o => t.status = .running ∧ Ended t below o ∧ ∃ v L, o = .returned v ∧ own_Q1_0 Z q_1 a_2 g_ h0 n0 v t.heap L ∧ FrameEnd s o t L ({ frames := 0, cells := 0, slots := 0, locals := 0 } : Room).cells ({ frames := 0, cells := 0, slots := 0, locals := 0 } : Room).slots) s₁ (entryFrame m #[(.long q_1), (.ref a_2), (.int (0 : Int32))] 4)
  rw [own_ef_own_rm1_0 m q_1 a_2]
  show own_Go _ _ _ _ s₁ (mkF m 0 #[.val (.long q_1), .second, .val (.ref a_2), .val (.int (0 : Int32))] [])
  refine own_go (fun _ k => XS.aloadN X0.here hx rfl (hb hby own_d1_0) rfl rfl k) ?_
  show own_Go _ _ _ _ s₁ (mkF m 1 #[.val (.long q_1), .second, .val (.ref a_2), .val (.int (0 : Int32))] [(.ref a_2)])
  refine own_go (fun _ k => XS.iloadN X0.here hx rfl (hb hby own_d1_1) rfl k) ?_
  show own_Go _ _ _ _ s₁ (mkF m 2 #[.val (.long q_1), .second, .val (.ref a_2), .val (.int (0 : Int32))] [(.int (0 : Int32)), (.ref a_2)])
  refine own_go (fun _ k => XS.lloadN X0.here hx rfl (hb hby own_d1_2) rfl k) ?_
  show own_Go _ _ _ _ s₁ (mkF m 3 #[.val (.long q_1), .second, .val (.ref a_2), .val (.int (0 : Int32))] [(.long q_1), (.int (0 : Int32)), (.ref a_2)])
  refine own_go (fun _ k => XS.l2i X0.here hx rfl (hb hby own_d1_3) rfl k) ?_
  show own_Go _ _ _ _ s₁ (mkF m 4 #[.val (.long q_1), .second, .val (.ref a_2), .val (.int (0 : Int32))] [(.int (q_1.toInt32)), (.int (0 : Int32)), (.ref a_2)])
  refine own_go (fun _ k => XS.i2c X0.here hx rfl (hb hby own_d1_4) rfl k) ?_
  show own_Go _ _ _ _ s₁ (mkF m 5 #[.val (.long q_1), .second, .val (.ref a_2), .val (.int (0 : Int32))] [(.int ((q_1.toInt32).toUInt32.toUInt16.toUInt32.toInt32)), (.int (0 : Int32)), (.ref a_2)])
  obtain ⟨q2, c2, R2, s2, t2⟩ := id pr_A_a_2
  have hin2 : ¬ ((0 : Int32) < 0 ∨ c2.slots.size ≤ ((0 : Int32)).toNatClampNeg) := inb_of s2 ⟨by decide, by decide⟩
  obtain ⟨T3, h3, X3, e3, W3, st3⟩ := stC X0 hx hZ e0 R2 (j := (0 : Int32)) hin2 (g := (mkF m 5 #[.val (.long q_1), .second, .val (.ref a_2), .val (.int (0 : Int32))] [(.int ((q_1.toInt32).toUInt32.toUInt16.toUInt32.toInt32)), (.int (0 : Int32)), (.ref a_2)])) rfl rfl (hb hby own_d1_5)
  rw [own_nar_c] at W3
  have V3 : own_AV Z h3 a_2 .char (6 : Int32) (own_upd g_ 0 (.int ((q_1.toInt32).toUInt32.toUInt16.toUInt32.toInt32))) := own_AV.set (k := 0) pr_A_a_2 W3 (by decide)
  have z4 := W3.size
  have K3 : Keep h0 h3 [a_2] := K0.wr W3 (Or.inl (List.mem_of_getElem? (i := 0) rfl))
  have N3 := Fr.snoc X3 N0 (by omega : n0 ≤ a_2)
  refine own_go (fun _ k => st3 _ k) ?_
  show own_Go _ _ _ _ T3 (mkF m 6 #[.val (.long q_1), .second, .val (.ref a_2), .val (.int (0 : Int32))] [])
  refine own_go (fun _ k => XS.aloadN X3.here hx rfl (hb hby own_d1_6) rfl rfl k) ?_
  show own_Go _ _ _ _ T3 (mkF m 7 #[.val (.long q_1), .second, .val (.ref a_2), .val (.int (0 : Int32))] [(.ref a_2)])
  refine own_go (fun _ k => XS.iloadN X3.here hx rfl (hb hby own_d1_7) rfl k) ?_
  show own_Go _ _ _ _ T3 (mkF m 8 #[.val (.long q_1), .second, .val (.ref a_2), .val (.int (0 : Int32))] [(.int (0 : Int32)), (.ref a_2)])
  refine own_go (fun _ k => XS.iconst X3.here hx rfl (hb hby own_d1_8) k) ?_
  show own_Go _ _ _ _ T3 (mkF m 9 #[.val (.long q_1), .second, .val (.ref a_2), .val (.int (0 : Int32))] [(.int (1 : Int32)), (.int (0 : Int32)), (.ref a_2)])
  refine own_go (fun _ k => XS.iadd X3.here hx rfl (hb hby own_d1_9) rfl k) ?_
  show own_Go _ _ _ _ T3 (mkF m 10 #[.val (.long q_1), .second, .val (.ref a_2), .val (.int (0 : Int32))] [(.int (1 : Int32)), (.ref a_2)])
  refine own_go (fun _ k => XS.lloadN X3.here hx rfl (hb hby own_d1_10) rfl k) ?_
  show own_Go _ _ _ _ T3 (mkF m 11 #[.val (.long q_1), .second, .val (.ref a_2), .val (.int (0 : Int32))] [(.long q_1), (.int (1 : Int32)), (.ref a_2)])
  refine own_go (fun _ k => XS.bipush X3.here hx rfl (hb hby own_d1_11) k) ?_
  show own_Go _ _ _ _ T3 (mkF m 13 #[.val (.long q_1), .second, .val (.ref a_2), .val (.int (0 : Int32))] [(.int (16 : Int32)), (.long q_1), (.int (1 : Int32)), (.ref a_2)])
  refine own_go (fun _ k => XS.lushr X3.here hx rfl (hb hby own_d1_13) rfl k) ?_
  show own_Go _ _ _ _ T3 (mkF m 14 #[.val (.long q_1), .second, .val (.ref a_2), .val (.int (0 : Int32))] [(.long ((q_1.toUInt64 >>> ((16 : Int32) &&& 0x3f).toInt64.toUInt64).toInt64)), (.int (1 : Int32)), (.ref a_2)])
  refine own_go (fun _ k => XS.l2i X3.here hx rfl (hb hby own_d1_14) rfl k) ?_
  show own_Go _ _ _ _ T3 (mkF m 15 #[.val (.long q_1), .second, .val (.ref a_2), .val (.int (0 : Int32))] [(.int (((q_1.toUInt64 >>> ((16 : Int32) &&& 0x3f).toInt64.toUInt64).toInt64).toInt32)), (.int (1 : Int32)), (.ref a_2)])
  refine own_go (fun _ k => XS.i2c X3.here hx rfl (hb hby own_d1_15) rfl k) ?_
  show own_Go _ _ _ _ T3 (mkF m 16 #[.val (.long q_1), .second, .val (.ref a_2), .val (.int (0 : Int32))] [(.int ((((q_1.toUInt64 >>> ((16 : Int32) &&& 0x3f).toInt64.toUInt64).toInt64).toInt32).toUInt32.toUInt16.toUInt32.toInt32)), (.int (1 : Int32)), (.ref a_2)])
  obtain ⟨q5, c5, R5, s5, t5⟩ := id V3
  have hin5 : ¬ ((1 : Int32) < 0 ∨ c5.slots.size ≤ ((1 : Int32)).toNatClampNeg) := inb_of s5 ⟨by decide, by decide⟩
  obtain ⟨T6, h6, X6, e6, W6, st6⟩ := stC X3 hx hZ e3 R5 (j := (1 : Int32)) hin5 (g := (mkF m 16 #[.val (.long q_1), .second, .val (.ref a_2), .val (.int (0 : Int32))] [(.int ((((q_1.toUInt64 >>> ((16 : Int32) &&& 0x3f).toInt64.toUInt64).toInt64).toInt32).toUInt32.toUInt16.toUInt32.toInt32)), (.int (1 : Int32)), (.ref a_2)])) rfl rfl (hb hby own_d1_16)
  rw [own_nar_c] at W6
  have V6 : own_AV Z h6 a_2 .char (6 : Int32) (own_upd (own_upd g_ 0 (.int ((q_1.toInt32).toUInt32.toUInt16.toUInt32.toInt32))) 1 (.int ((((q_1.toUInt64 >>> ((16 : Int32) &&& 0x3f).toInt64.toUInt64).toInt64).toInt32).toUInt32.toUInt16.toUInt32.toInt32))) := own_AV.set (k := 1) V3 W6 (by decide)
  have z7 := W6.size
  have K6 : Keep h0 h6 [a_2] := K3.wr W6 (Or.inl (List.mem_of_getElem? (i := 0) rfl))
  have N6 := Fr.snoc X6 N3 (by omega : n0 ≤ a_2)
  refine own_go (fun _ k => st6 _ k) ?_
  show own_Go _ _ _ _ T6 (mkF m 17 #[.val (.long q_1), .second, .val (.ref a_2), .val (.int (0 : Int32))] [])
  refine own_go (fun _ k => XS.aloadN X6.here hx rfl (hb hby own_d1_17) rfl rfl k) ?_
  show own_Go _ _ _ _ T6 (mkF m 18 #[.val (.long q_1), .second, .val (.ref a_2), .val (.int (0 : Int32))] [(.ref a_2)])
  refine own_go (fun _ k => XS.iloadN X6.here hx rfl (hb hby own_d1_18) rfl k) ?_
  show own_Go _ _ _ _ T6 (mkF m 19 #[.val (.long q_1), .second, .val (.ref a_2), .val (.int (0 : Int32))] [(.int (0 : Int32)), (.ref a_2)])
  refine own_go (fun _ k => XS.iconst X6.here hx rfl (hb hby own_d1_19) k) ?_
  show own_Go _ _ _ _ T6 (mkF m 20 #[.val (.long q_1), .second, .val (.ref a_2), .val (.int (0 : Int32))] [(.int (2 : Int32)), (.int (0 : Int32)), (.ref a_2)])
  refine own_go (fun _ k => XS.iadd X6.here hx rfl (hb hby own_d1_20) rfl k) ?_
  show own_Go _ _ _ _ T6 (mkF m 21 #[.val (.long q_1), .second, .val (.ref a_2), .val (.int (0 : Int32))] [(.int (2 : Int32)), (.ref a_2)])
  refine own_go (fun _ k => XS.lloadN X6.here hx rfl (hb hby own_d1_21) rfl k) ?_
  show own_Go _ _ _ _ T6 (mkF m 22 #[.val (.long q_1), .second, .val (.ref a_2), .val (.int (0 : Int32))] [(.long q_1), (.int (2 : Int32)), (.ref a_2)])
  refine own_go (fun _ k => XS.bipush X6.here hx rfl (hb hby own_d1_22) k) ?_
  show own_Go _ _ _ _ T6 (mkF m 24 #[.val (.long q_1), .second, .val (.ref a_2), .val (.int (0 : Int32))] [(.int (32 : Int32)), (.long q_1), (.int (2 : Int32)), (.ref a_2)])
  refine own_go (fun _ k => XS.lushr X6.here hx rfl (hb hby own_d1_24) rfl k) ?_
  show own_Go _ _ _ _ T6 (mkF m 25 #[.val (.long q_1), .second, .val (.ref a_2), .val (.int (0 : Int32))] [(.long ((q_1.toUInt64 >>> ((32 : Int32) &&& 0x3f).toInt64.toUInt64).toInt64)), (.int (2 : Int32)), (.ref a_2)])
  refine own_go (fun _ k => XS.l2i X6.here hx rfl (hb hby own_d1_25) rfl k) ?_
  show own_Go _ _ _ _ T6 (mkF m 26 #[.val (.long q_1), .second, .val (.ref a_2), .val (.int (0 : Int32))] [(.int (((q_1.toUInt64 >>> ((32 : Int32) &&& 0x3f).toInt64.toUInt64).toInt64).toInt32)), (.int (2 : Int32)), (.ref a_2)])
  refine own_go (fun _ k => XS.i2c X6.here hx rfl (hb hby own_d1_26) rfl k) ?_
  show own_Go _ _ _ _ T6 (mkF m 27 #[.val (.long q_1), .second, .val (.ref a_2), .val (.int (0 : Int32))] [(.int ((((q_1.toUInt64 >>> ((32 : Int32) &&& 0x3f).toInt64.toUInt64).toInt64).toInt32).toUInt32.toUInt16.toUInt32.toInt32)), (.int (2 : Int32)), (.ref a_2)])
  obtain ⟨q8, c8, R8, s8, t8⟩ := id V6
  have hin8 : ¬ ((2 : Int32) < 0 ∨ c8.slots.size ≤ ((2 : Int32)).toNatClampNeg) := inb_of s8 ⟨by decide, by decide⟩
  obtain ⟨T9, h9, X9, e9, W9, st9⟩ := stC X6 hx hZ e6 R8 (j := (2 : Int32)) hin8 (g := (mkF m 27 #[.val (.long q_1), .second, .val (.ref a_2), .val (.int (0 : Int32))] [(.int ((((q_1.toUInt64 >>> ((32 : Int32) &&& 0x3f).toInt64.toUInt64).toInt64).toInt32).toUInt32.toUInt16.toUInt32.toInt32)), (.int (2 : Int32)), (.ref a_2)])) rfl rfl (hb hby own_d1_27)
  rw [own_nar_c] at W9
  have V9 : own_AV Z h9 a_2 .char (6 : Int32) (own_upd (own_upd (own_upd g_ 0 (.int ((q_1.toInt32).toUInt32.toUInt16.toUInt32.toInt32))) 1 (.int ((((q_1.toUInt64 >>> ((16 : Int32) &&& 0x3f).toInt64.toUInt64).toInt64).toInt32).toUInt32.toUInt16.toUInt32.toInt32))) 2 (.int ((((q_1.toUInt64 >>> ((32 : Int32) &&& 0x3f).toInt64.toUInt64).toInt64).toInt32).toUInt32.toUInt16.toUInt32.toInt32))) := own_AV.set (k := 2) V6 W9 (by decide)
  have z10 := W9.size
  have K9 : Keep h0 h9 [a_2] := K6.wr W9 (Or.inl (List.mem_of_getElem? (i := 0) rfl))
  have N9 := Fr.snoc X9 N6 (by omega : n0 ≤ a_2)
  refine own_go (fun _ k => st9 _ k) ?_
  show own_Go _ _ _ _ T9 (mkF m 28 #[.val (.long q_1), .second, .val (.ref a_2), .val (.int (0 : Int32))] [])
  refine own_go (fun _ k => XS.aloadN X9.here hx rfl (hb hby own_d1_28) rfl rfl k) ?_
  show own_Go _ _ _ _ T9 (mkF m 29 #[.val (.long q_1), .second, .val (.ref a_2), .val (.int (0 : Int32))] [(.ref a_2)])
  refine own_go (fun _ k => XS.iloadN X9.here hx rfl (hb hby own_d1_29) rfl k) ?_
  show own_Go _ _ _ _ T9 (mkF m 30 #[.val (.long q_1), .second, .val (.ref a_2), .val (.int (0 : Int32))] [(.int (0 : Int32)), (.ref a_2)])
  refine own_go (fun _ k => XS.iconst X9.here hx rfl (hb hby own_d1_30) k) ?_
  show own_Go _ _ _ _ T9 (mkF m 31 #[.val (.long q_1), .second, .val (.ref a_2), .val (.int (0 : Int32))] [(.int (3 : Int32)), (.int (0 : Int32)), (.ref a_2)])
  refine own_go (fun _ k => XS.iadd X9.here hx rfl (hb hby own_d1_31) rfl k) ?_
  show own_Go _ _ _ _ T9 (mkF m 32 #[.val (.long q_1), .second, .val (.ref a_2), .val (.int (0 : Int32))] [(.int (3 : Int32)), (.ref a_2)])
  refine own_go (fun _ k => XS.lloadN X9.here hx rfl (hb hby own_d1_32) rfl k) ?_
  show own_Go _ _ _ _ T9 (mkF m 33 #[.val (.long q_1), .second, .val (.ref a_2), .val (.int (0 : Int32))] [(.long q_1), (.int (3 : Int32)), (.ref a_2)])
  refine own_go (fun _ k => XS.bipush X9.here hx rfl (hb hby own_d1_33) k) ?_
  show own_Go _ _ _ _ T9 (mkF m 35 #[.val (.long q_1), .second, .val (.ref a_2), .val (.int (0 : Int32))] [(.int (48 : Int32)), (.long q_1), (.int (3 : Int32)), (.ref a_2)])
  refine own_go (fun _ k => XS.lushr X9.here hx rfl (hb hby own_d1_35) rfl k) ?_
  show own_Go _ _ _ _ T9 (mkF m 36 #[.val (.long q_1), .second, .val (.ref a_2), .val (.int (0 : Int32))] [(.long ((q_1.toUInt64 >>> ((48 : Int32) &&& 0x3f).toInt64.toUInt64).toInt64)), (.int (3 : Int32)), (.ref a_2)])
  refine own_go (fun _ k => XS.l2i X9.here hx rfl (hb hby own_d1_36) rfl k) ?_
  show own_Go _ _ _ _ T9 (mkF m 37 #[.val (.long q_1), .second, .val (.ref a_2), .val (.int (0 : Int32))] [(.int (((q_1.toUInt64 >>> ((48 : Int32) &&& 0x3f).toInt64.toUInt64).toInt64).toInt32)), (.int (3 : Int32)), (.ref a_2)])
  refine own_go (fun _ k => XS.i2c X9.here hx rfl (hb hby own_d1_37) rfl k) ?_
  show own_Go _ _ _ _ T9 (mkF m 38 #[.val (.long q_1), .second, .val (.ref a_2), .val (.int (0 : Int32))] [(.int ((((q_1.toUInt64 >>> ((48 : Int32) &&& 0x3f).toInt64.toUInt64).toInt64).toInt32).toUInt32.toUInt16.toUInt32.toInt32)), (.int (3 : Int32)), (.ref a_2)])
  obtain ⟨q11, c11, R11, s11, t11⟩ := id V9
  have hin11 : ¬ ((3 : Int32) < 0 ∨ c11.slots.size ≤ ((3 : Int32)).toNatClampNeg) := inb_of s11 ⟨by decide, by decide⟩
  obtain ⟨T12, h12, X12, e12, W12, st12⟩ := stC X9 hx hZ e9 R11 (j := (3 : Int32)) hin11 (g := (mkF m 38 #[.val (.long q_1), .second, .val (.ref a_2), .val (.int (0 : Int32))] [(.int ((((q_1.toUInt64 >>> ((48 : Int32) &&& 0x3f).toInt64.toUInt64).toInt64).toInt32).toUInt32.toUInt16.toUInt32.toInt32)), (.int (3 : Int32)), (.ref a_2)])) rfl rfl (hb hby own_d1_38)
  rw [own_nar_c] at W12
  have V12 : own_AV Z h12 a_2 .char (6 : Int32) (own_upd (own_upd (own_upd (own_upd g_ 0 (.int ((q_1.toInt32).toUInt32.toUInt16.toUInt32.toInt32))) 1 (.int ((((q_1.toUInt64 >>> ((16 : Int32) &&& 0x3f).toInt64.toUInt64).toInt64).toInt32).toUInt32.toUInt16.toUInt32.toInt32))) 2 (.int ((((q_1.toUInt64 >>> ((32 : Int32) &&& 0x3f).toInt64.toUInt64).toInt64).toInt32).toUInt32.toUInt16.toUInt32.toInt32))) 3 (.int ((((q_1.toUInt64 >>> ((48 : Int32) &&& 0x3f).toInt64.toUInt64).toInt64).toInt32).toUInt32.toUInt16.toUInt32.toInt32))) := own_AV.set (k := 3) V9 W12 (by decide)
  have z13 := W12.size
  have K12 : Keep h0 h12 [a_2] := K9.wr W12 (Or.inl (List.mem_of_getElem? (i := 0) rfl))
  have N12 := Fr.snoc X12 N9 (by omega : n0 ≤ a_2)
  refine own_go (fun _ k => st12 _ k) ?_
  show own_Go _ _ _ _ T12 (mkF m 39 #[.val (.long q_1), .second, .val (.ref a_2), .val (.int (0 : Int32))] [])
  obtain ⟨fs, hr, hrun, hended, hW, hsame⟩ := X12.leave (v := none) (fun _ => rfl)
  refine ⟨_, _, X12.returnOut hx Bd.returns (hb hby own_d1_39) hr, hrun, hended, _, _, rfl, ?_, ⟨_, rfl⟩, hW, hsame.mono (by decide) (by decide)⟩
  show own_Q1_0 Z q_1 a_2 g_ h0 n0 _ T12.heap _
  rw [e12]
  exact ⟨rfl, N12, K12, V12⟩
theorem own_ef_own_rm1_1 (m : MethodId) (x0 : Int64) (x1 : Addr) : entryFrame m #[(.long x0), (.ref x1), (.int (1 : Int32))] 4 = mkF m 0 #[.val (.long x0), .second, .val (.ref x1), .val (.int (1 : Int32))] [] := by first | (simp [entryFrame, mkF, argsToLocals, Value.category]; done) | rfl
def own_Q1_1 (Z : State) (q_1 : Int64) (a_2 : Addr) (g_ : Nat → Value) (h0 : Heap) (n0 : Nat) (v : Option Value) (h : Heap) (L : List Loc) : Prop := v = none ∧ Fr n0 L ∧ Keep h0 h [a_2] ∧ own_AV Z h a_2 .char (6 : Int32) (own_upd (own_upd (own_upd (own_upd g_ 1 (.int ((q_1.toInt32).toUInt32.toUInt16.toUInt32.toInt32))) 2 (.int ((((q_1.toUInt64 >>> ((16 : Int32) &&& 0x3f).toInt64.toUInt64).toInt64).toInt32).toUInt32.toUInt16.toUInt32.toInt32))) 3 (.int ((((q_1.toUInt64 >>> ((32 : Int32) &&& 0x3f).toInt64.toUInt64).toInt64).toInt32).toUInt32.toUInt16.toUInt32.toInt32))) 4 (.int ((((q_1.toUInt64 >>> ((48 : Int32) &&& 0x3f).toInt64.toUInt64).toInt64).toInt32).toUInt32.toUInt16.toUInt32.toInt32)))
set_option maxRecDepth 65536 in
set_option maxHeartbeats 40000000 in
theorem own_rm1_1 (l : Launch) (Z : State) (a0 : Array Value) (hw : ∀ d ∈ tables_1, d.before a0 Z = true) (ws : List Jvm.Cond) (q_1 : Int64) (a_2 : Addr) (g_ : Nat → Value) (h0 : Heap) (n0 : Nat) (Z0 : n0 ≤ h0.size) (pr_A_a_2 : own_AV Z h0 a_2 .char (6 : Int32) g_) (gw_a_2 : n0 ≤ a_2) :
    MetFree l (⟨"com/example/honest_codec/honestcodec/Words", "putLanes", "(J[CI)V"⟩ : MethodName) (head1 (Jvm.Cond.code (⟨"com/example/honest_codec/honestcodec/Words", "putLanes", "(J[CI)V"⟩ : MethodName) prog_36_method_3_code 4 none :: ws) ({ frames := 0, cells := 0, slots := 0, locals := 0 } : Room)) (fun a U => a = #[(.long q_1), (.ref a_2), (.int (1 : Int32))] ∧ Z.Warmed39 U.vm ∧ U.heap = h0) (fun _ _ _ _ _ => True) (fun _ U o U' => ∃ v L, o = .returned v ∧ own_Q1_1 Z q_1 a_2 g_ h0 n0 v U'.heap L ∧ FrameEnd U o U' L ({ frames := 0, cells := 0, slots := 0, locals := 0 } : Room).cells ({ frames := 0, cells := 0, slots := 0, locals := 0 } : Room).slots) := by
  refine MetFree.of_bodySF (plainFor_of_name own_pn0) hisR ?_
  intro p e s m args below meth c s₁ Bd hml0 hP hK
  obtain ⟨rfl, hZ, hh⟩ := hP
  have hx := Bd.exec
  have hby := Bd.bytes
  have hml : c.maxLocals = 4 := hml0
  have hown : s.vm.findClass "com/example/honest_codec/honestcodec/Words" = some m.cls := findClass_of_methodNamed Bd.named
  have hnm := (name_of_methodNamed Bd.named Bd.method).1
  have X0 : Stand p l e ({ frames := 0, cells := 0, slots := 0, locals := 0 } : Room) s m #[(.long q_1), (.ref a_2), (.int (1 : Int32))] below meth c s₁ [] 0 0 := Stand.of_body Bd
  have e0 : s₁.heap = h0 := by rw [← hh, Bd.state]; rfl
  have N0 := Fr.nil n0
  have z0 : n0 ≤ h0.size := Z0
  have z1 := own_lt pr_A_a_2.lt
  have K0 : Keep h0 h0 [a_2] := Keep.refl h0 _
  show own_Go p.tables e below (fun t o => t.status = .running ∧ Ended t below o ∧ ∃ v L, o = .returned v ∧ own_Q1_1 Z q_1 a_2 g_ h0 n0 v t.heap L ∧ FrameEnd s o t L ({ frames := 0, cells := 0, slots := 0, locals := 0 } : Room).cells ({ frames := 0, cells := 0, slots := 0, locals := 0 } : Room).slots) s₁ (entryFrame m #[(.long q_1), (.ref a_2), (.int (1 : Int32))] 4)
  rw [own_ef_own_rm1_1 m q_1 a_2]
  show own_Go _ _ _ _ s₁ (mkF m 0 #[.val (.long q_1), .second, .val (.ref a_2), .val (.int (1 : Int32))] [])
  refine own_go (fun _ k => XS.aloadN X0.here hx rfl (hb hby own_d1_0) rfl rfl k) ?_
  show own_Go _ _ _ _ s₁ (mkF m 1 #[.val (.long q_1), .second, .val (.ref a_2), .val (.int (1 : Int32))] [(.ref a_2)])
  refine own_go (fun _ k => XS.iloadN X0.here hx rfl (hb hby own_d1_1) rfl k) ?_
  show own_Go _ _ _ _ s₁ (mkF m 2 #[.val (.long q_1), .second, .val (.ref a_2), .val (.int (1 : Int32))] [(.int (1 : Int32)), (.ref a_2)])
  refine own_go (fun _ k => XS.lloadN X0.here hx rfl (hb hby own_d1_2) rfl k) ?_
  show own_Go _ _ _ _ s₁ (mkF m 3 #[.val (.long q_1), .second, .val (.ref a_2), .val (.int (1 : Int32))] [(.long q_1), (.int (1 : Int32)), (.ref a_2)])
  refine own_go (fun _ k => XS.l2i X0.here hx rfl (hb hby own_d1_3) rfl k) ?_
  show own_Go _ _ _ _ s₁ (mkF m 4 #[.val (.long q_1), .second, .val (.ref a_2), .val (.int (1 : Int32))] [(.int (q_1.toInt32)), (.int (1 : Int32)), (.ref a_2)])
  refine own_go (fun _ k => XS.i2c X0.here hx rfl (hb hby own_d1_4) rfl k) ?_
  show own_Go _ _ _ _ s₁ (mkF m 5 #[.val (.long q_1), .second, .val (.ref a_2), .val (.int (1 : Int32))] [(.int ((q_1.toInt32).toUInt32.toUInt16.toUInt32.toInt32)), (.int (1 : Int32)), (.ref a_2)])
  obtain ⟨q2, c2, R2, s2, t2⟩ := id pr_A_a_2
  have hin2 : ¬ ((1 : Int32) < 0 ∨ c2.slots.size ≤ ((1 : Int32)).toNatClampNeg) := inb_of s2 ⟨by decide, by decide⟩
  obtain ⟨T3, h3, X3, e3, W3, st3⟩ := stC X0 hx hZ e0 R2 (j := (1 : Int32)) hin2 (g := (mkF m 5 #[.val (.long q_1), .second, .val (.ref a_2), .val (.int (1 : Int32))] [(.int ((q_1.toInt32).toUInt32.toUInt16.toUInt32.toInt32)), (.int (1 : Int32)), (.ref a_2)])) rfl rfl (hb hby own_d1_5)
  rw [own_nar_c] at W3
  have V3 : own_AV Z h3 a_2 .char (6 : Int32) (own_upd g_ 1 (.int ((q_1.toInt32).toUInt32.toUInt16.toUInt32.toInt32))) := own_AV.set (k := 1) pr_A_a_2 W3 (by decide)
  have z4 := W3.size
  have K3 : Keep h0 h3 [a_2] := K0.wr W3 (Or.inl (List.mem_of_getElem? (i := 0) rfl))
  have N3 := Fr.snoc X3 N0 (by omega : n0 ≤ a_2)
  refine own_go (fun _ k => st3 _ k) ?_
  show own_Go _ _ _ _ T3 (mkF m 6 #[.val (.long q_1), .second, .val (.ref a_2), .val (.int (1 : Int32))] [])
  refine own_go (fun _ k => XS.aloadN X3.here hx rfl (hb hby own_d1_6) rfl rfl k) ?_
  show own_Go _ _ _ _ T3 (mkF m 7 #[.val (.long q_1), .second, .val (.ref a_2), .val (.int (1 : Int32))] [(.ref a_2)])
  refine own_go (fun _ k => XS.iloadN X3.here hx rfl (hb hby own_d1_7) rfl k) ?_
  show own_Go _ _ _ _ T3 (mkF m 8 #[.val (.long q_1), .second, .val (.ref a_2), .val (.int (1 : Int32))] [(.int (1 : Int32)), (.ref a_2)])
  refine own_go (fun _ k => XS.iconst X3.here hx rfl (hb hby own_d1_8) k) ?_
  show own_Go _ _ _ _ T3 (mkF m 9 #[.val (.long q_1), .second, .val (.ref a_2), .val (.int (1 : Int32))] [(.int (1 : Int32)), (.int (1 : Int32)), (.ref a_2)])
  refine own_go (fun _ k => XS.iadd X3.here hx rfl (hb hby own_d1_9) rfl k) ?_
  show own_Go _ _ _ _ T3 (mkF m 10 #[.val (.long q_1), .second, .val (.ref a_2), .val (.int (1 : Int32))] [(.int (2 : Int32)), (.ref a_2)])
  refine own_go (fun _ k => XS.lloadN X3.here hx rfl (hb hby own_d1_10) rfl k) ?_
  show own_Go _ _ _ _ T3 (mkF m 11 #[.val (.long q_1), .second, .val (.ref a_2), .val (.int (1 : Int32))] [(.long q_1), (.int (2 : Int32)), (.ref a_2)])
  refine own_go (fun _ k => XS.bipush X3.here hx rfl (hb hby own_d1_11) k) ?_
  show own_Go _ _ _ _ T3 (mkF m 13 #[.val (.long q_1), .second, .val (.ref a_2), .val (.int (1 : Int32))] [(.int (16 : Int32)), (.long q_1), (.int (2 : Int32)), (.ref a_2)])
  refine own_go (fun _ k => XS.lushr X3.here hx rfl (hb hby own_d1_13) rfl k) ?_
  show own_Go _ _ _ _ T3 (mkF m 14 #[.val (.long q_1), .second, .val (.ref a_2), .val (.int (1 : Int32))] [(.long ((q_1.toUInt64 >>> ((16 : Int32) &&& 0x3f).toInt64.toUInt64).toInt64)), (.int (2 : Int32)), (.ref a_2)])
  refine own_go (fun _ k => XS.l2i X3.here hx rfl (hb hby own_d1_14) rfl k) ?_
  show own_Go _ _ _ _ T3 (mkF m 15 #[.val (.long q_1), .second, .val (.ref a_2), .val (.int (1 : Int32))] [(.int (((q_1.toUInt64 >>> ((16 : Int32) &&& 0x3f).toInt64.toUInt64).toInt64).toInt32)), (.int (2 : Int32)), (.ref a_2)])
  refine own_go (fun _ k => XS.i2c X3.here hx rfl (hb hby own_d1_15) rfl k) ?_
  show own_Go _ _ _ _ T3 (mkF m 16 #[.val (.long q_1), .second, .val (.ref a_2), .val (.int (1 : Int32))] [(.int ((((q_1.toUInt64 >>> ((16 : Int32) &&& 0x3f).toInt64.toUInt64).toInt64).toInt32).toUInt32.toUInt16.toUInt32.toInt32)), (.int (2 : Int32)), (.ref a_2)])
  obtain ⟨q5, c5, R5, s5, t5⟩ := id V3
  have hin5 : ¬ ((2 : Int32) < 0 ∨ c5.slots.size ≤ ((2 : Int32)).toNatClampNeg) := inb_of s5 ⟨by decide, by decide⟩
  obtain ⟨T6, h6, X6, e6, W6, st6⟩ := stC X3 hx hZ e3 R5 (j := (2 : Int32)) hin5 (g := (mkF m 16 #[.val (.long q_1), .second, .val (.ref a_2), .val (.int (1 : Int32))] [(.int ((((q_1.toUInt64 >>> ((16 : Int32) &&& 0x3f).toInt64.toUInt64).toInt64).toInt32).toUInt32.toUInt16.toUInt32.toInt32)), (.int (2 : Int32)), (.ref a_2)])) rfl rfl (hb hby own_d1_16)
  rw [own_nar_c] at W6
  have V6 : own_AV Z h6 a_2 .char (6 : Int32) (own_upd (own_upd g_ 1 (.int ((q_1.toInt32).toUInt32.toUInt16.toUInt32.toInt32))) 2 (.int ((((q_1.toUInt64 >>> ((16 : Int32) &&& 0x3f).toInt64.toUInt64).toInt64).toInt32).toUInt32.toUInt16.toUInt32.toInt32))) := own_AV.set (k := 2) V3 W6 (by decide)
  have z7 := W6.size
  have K6 : Keep h0 h6 [a_2] := K3.wr W6 (Or.inl (List.mem_of_getElem? (i := 0) rfl))
  have N6 := Fr.snoc X6 N3 (by omega : n0 ≤ a_2)
  refine own_go (fun _ k => st6 _ k) ?_
  show own_Go _ _ _ _ T6 (mkF m 17 #[.val (.long q_1), .second, .val (.ref a_2), .val (.int (1 : Int32))] [])
  refine own_go (fun _ k => XS.aloadN X6.here hx rfl (hb hby own_d1_17) rfl rfl k) ?_
  show own_Go _ _ _ _ T6 (mkF m 18 #[.val (.long q_1), .second, .val (.ref a_2), .val (.int (1 : Int32))] [(.ref a_2)])
  refine own_go (fun _ k => XS.iloadN X6.here hx rfl (hb hby own_d1_18) rfl k) ?_
  show own_Go _ _ _ _ T6 (mkF m 19 #[.val (.long q_1), .second, .val (.ref a_2), .val (.int (1 : Int32))] [(.int (1 : Int32)), (.ref a_2)])
  refine own_go (fun _ k => XS.iconst X6.here hx rfl (hb hby own_d1_19) k) ?_
  show own_Go _ _ _ _ T6 (mkF m 20 #[.val (.long q_1), .second, .val (.ref a_2), .val (.int (1 : Int32))] [(.int (2 : Int32)), (.int (1 : Int32)), (.ref a_2)])
  refine own_go (fun _ k => XS.iadd X6.here hx rfl (hb hby own_d1_20) rfl k) ?_
  show own_Go _ _ _ _ T6 (mkF m 21 #[.val (.long q_1), .second, .val (.ref a_2), .val (.int (1 : Int32))] [(.int (3 : Int32)), (.ref a_2)])
  refine own_go (fun _ k => XS.lloadN X6.here hx rfl (hb hby own_d1_21) rfl k) ?_
  show own_Go _ _ _ _ T6 (mkF m 22 #[.val (.long q_1), .second, .val (.ref a_2), .val (.int (1 : Int32))] [(.long q_1), (.int (3 : Int32)), (.ref a_2)])
  refine own_go (fun _ k => XS.bipush X6.here hx rfl (hb hby own_d1_22) k) ?_
  show own_Go _ _ _ _ T6 (mkF m 24 #[.val (.long q_1), .second, .val (.ref a_2), .val (.int (1 : Int32))] [(.int (32 : Int32)), (.long q_1), (.int (3 : Int32)), (.ref a_2)])
  refine own_go (fun _ k => XS.lushr X6.here hx rfl (hb hby own_d1_24) rfl k) ?_
  show own_Go _ _ _ _ T6 (mkF m 25 #[.val (.long q_1), .second, .val (.ref a_2), .val (.int (1 : Int32))] [(.long ((q_1.toUInt64 >>> ((32 : Int32) &&& 0x3f).toInt64.toUInt64).toInt64)), (.int (3 : Int32)), (.ref a_2)])
  refine own_go (fun _ k => XS.l2i X6.here hx rfl (hb hby own_d1_25) rfl k) ?_
  show own_Go _ _ _ _ T6 (mkF m 26 #[.val (.long q_1), .second, .val (.ref a_2), .val (.int (1 : Int32))] [(.int (((q_1.toUInt64 >>> ((32 : Int32) &&& 0x3f).toInt64.toUInt64).toInt64).toInt32)), (.int (3 : Int32)), (.ref a_2)])
  refine own_go (fun _ k => XS.i2c X6.here hx rfl (hb hby own_d1_26) rfl k) ?_
  show own_Go _ _ _ _ T6 (mkF m 27 #[.val (.long q_1), .second, .val (.ref a_2), .val (.int (1 : Int32))] [(.int ((((q_1.toUInt64 >>> ((32 : Int32) &&& 0x3f).toInt64.toUInt64).toInt64).toInt32).toUInt32.toUInt16.toUInt32.toInt32)), (.int (3 : Int32)), (.ref a_2)])
  obtain ⟨q8, c8, R8, s8, t8⟩ := id V6
  have hin8 : ¬ ((3 : Int32) < 0 ∨ c8.slots.size ≤ ((3 : Int32)).toNatClampNeg) := inb_of s8 ⟨by decide, by decide⟩
  obtain ⟨T9, h9, X9, e9, W9, st9⟩ := stC X6 hx hZ e6 R8 (j := (3 : Int32)) hin8 (g := (mkF m 27 #[.val (.long q_1), .second, .val (.ref a_2), .val (.int (1 : Int32))] [(.int ((((q_1.toUInt64 >>> ((32 : Int32) &&& 0x3f).toInt64.toUInt64).toInt64).toInt32).toUInt32.toUInt16.toUInt32.toInt32)), (.int (3 : Int32)), (.ref a_2)])) rfl rfl (hb hby own_d1_27)
  rw [own_nar_c] at W9
  have V9 : own_AV Z h9 a_2 .char (6 : Int32) (own_upd (own_upd (own_upd g_ 1 (.int ((q_1.toInt32).toUInt32.toUInt16.toUInt32.toInt32))) 2 (.int ((((q_1.toUInt64 >>> ((16 : Int32) &&& 0x3f).toInt64.toUInt64).toInt64).toInt32).toUInt32.toUInt16.toUInt32.toInt32))) 3 (.int ((((q_1.toUInt64 >>> ((32 : Int32) &&& 0x3f).toInt64.toUInt64).toInt64).toInt32).toUInt32.toUInt16.toUInt32.toInt32))) := own_AV.set (k := 3) V6 W9 (by decide)
  have z10 := W9.size
  have K9 : Keep h0 h9 [a_2] := K6.wr W9 (Or.inl (List.mem_of_getElem? (i := 0) rfl))
  have N9 := Fr.snoc X9 N6 (by omega : n0 ≤ a_2)
  refine own_go (fun _ k => st9 _ k) ?_
  show own_Go _ _ _ _ T9 (mkF m 28 #[.val (.long q_1), .second, .val (.ref a_2), .val (.int (1 : Int32))] [])
  refine own_go (fun _ k => XS.aloadN X9.here hx rfl (hb hby own_d1_28) rfl rfl k) ?_
  show own_Go _ _ _ _ T9 (mkF m 29 #[.val (.long q_1), .second, .val (.ref a_2), .val (.int (1 : Int32))] [(.ref a_2)])
  refine own_go (fun _ k => XS.iloadN X9.here hx rfl (hb hby own_d1_29) rfl k) ?_
  show own_Go _ _ _ _ T9 (mkF m 30 #[.val (.long q_1), .second, .val (.ref a_2), .val (.int (1 : Int32))] [(.int (1 : Int32)), (.ref a_2)])
  refine own_go (fun _ k => XS.iconst X9.here hx rfl (hb hby own_d1_30) k) ?_
  show own_Go _ _ _ _ T9 (mkF m 31 #[.val (.long q_1), .second, .val (.ref a_2), .val (.int (1 : Int32))] [(.int (3 : Int32)), (.int (1 : Int32)), (.ref a_2)])
  refine own_go (fun _ k => XS.iadd X9.here hx rfl (hb hby own_d1_31) rfl k) ?_
  show own_Go _ _ _ _ T9 (mkF m 32 #[.val (.long q_1), .second, .val (.ref a_2), .val (.int (1 : Int32))] [(.int (4 : Int32)), (.ref a_2)])
  refine own_go (fun _ k => XS.lloadN X9.here hx rfl (hb hby own_d1_32) rfl k) ?_
  show own_Go _ _ _ _ T9 (mkF m 33 #[.val (.long q_1), .second, .val (.ref a_2), .val (.int (1 : Int32))] [(.long q_1), (.int (4 : Int32)), (.ref a_2)])
  refine own_go (fun _ k => XS.bipush X9.here hx rfl (hb hby own_d1_33) k) ?_
  show own_Go _ _ _ _ T9 (mkF m 35 #[.val (.long q_1), .second, .val (.ref a_2), .val (.int (1 : Int32))] [(.int (48 : Int32)), (.long q_1), (.int (4 : Int32)), (.ref a_2)])
  refine own_go (fun _ k => XS.lushr X9.here hx rfl (hb hby own_d1_35) rfl k) ?_
  show own_Go _ _ _ _ T9 (mkF m 36 #[.val (.long q_1), .second, .val (.ref a_2), .val (.int (1 : Int32))] [(.long ((q_1.toUInt64 >>> ((48 : Int32) &&& 0x3f).toInt64.toUInt64).toInt64)), (.int (4 : Int32)), (.ref a_2)])
  refine own_go (fun _ k => XS.l2i X9.here hx rfl (hb hby own_d1_36) rfl k) ?_
  show own_Go _ _ _ _ T9 (mkF m 37 #[.val (.long q_1), .second, .val (.ref a_2), .val (.int (1 : Int32))] [(.int (((q_1.toUInt64 >>> ((48 : Int32) &&& 0x3f).toInt64.toUInt64).toInt64).toInt32)), (.int (4 : Int32)), (.ref a_2)])
  refine own_go (fun _ k => XS.i2c X9.here hx rfl (hb hby own_d1_37) rfl k) ?_
  show own_Go _ _ _ _ T9 (mkF m 38 #[.val (.long q_1), .second, .val (.ref a_2), .val (.int (1 : Int32))] [(.int ((((q_1.toUInt64 >>> ((48 : Int32) &&& 0x3f).toInt64.toUInt64).toInt64).toInt32).toUInt32.toUInt16.toUInt32.toInt32)), (.int (4 : Int32)), (.ref a_2)])
  obtain ⟨q11, c11, R11, s11, t11⟩ := id V9
  have hin11 : ¬ ((4 : Int32) < 0 ∨ c11.slots.size ≤ ((4 : Int32)).toNatClampNeg) := inb_of s11 ⟨by decide, by decide⟩
  obtain ⟨T12, h12, X12, e12, W12, st12⟩ := stC X9 hx hZ e9 R11 (j := (4 : Int32)) hin11 (g := (mkF m 38 #[.val (.long q_1), .second, .val (.ref a_2), .val (.int (1 : Int32))] [(.int ((((q_1.toUInt64 >>> ((48 : Int32) &&& 0x3f).toInt64.toUInt64).toInt64).toInt32).toUInt32.toUInt16.toUInt32.toInt32)), (.int (4 : Int32)), (.ref a_2)])) rfl rfl (hb hby own_d1_38)
  rw [own_nar_c] at W12
  have V12 : own_AV Z h12 a_2 .char (6 : Int32) (own_upd (own_upd (own_upd (own_upd g_ 1 (.int ((q_1.toInt32).toUInt32.toUInt16.toUInt32.toInt32))) 2 (.int ((((q_1.toUInt64 >>> ((16 : Int32) &&& 0x3f).toInt64.toUInt64).toInt64).toInt32).toUInt32.toUInt16.toUInt32.toInt32))) 3 (.int ((((q_1.toUInt64 >>> ((32 : Int32) &&& 0x3f).toInt64.toUInt64).toInt64).toInt32).toUInt32.toUInt16.toUInt32.toInt32))) 4 (.int ((((q_1.toUInt64 >>> ((48 : Int32) &&& 0x3f).toInt64.toUInt64).toInt64).toInt32).toUInt32.toUInt16.toUInt32.toInt32))) := own_AV.set (k := 4) V9 W12 (by decide)
  have z13 := W12.size
  have K12 : Keep h0 h12 [a_2] := K9.wr W12 (Or.inl (List.mem_of_getElem? (i := 0) rfl))
  have N12 := Fr.snoc X12 N9 (by omega : n0 ≤ a_2)
  refine own_go (fun _ k => st12 _ k) ?_
  show own_Go _ _ _ _ T12 (mkF m 39 #[.val (.long q_1), .second, .val (.ref a_2), .val (.int (1 : Int32))] [])
  obtain ⟨fs, hr, hrun, hended, hW, hsame⟩ := X12.leave (v := none) (fun _ => rfl)
  refine ⟨_, _, X12.returnOut hx Bd.returns (hb hby own_d1_39) hr, hrun, hended, _, _, rfl, ?_, ⟨_, rfl⟩, hW, hsame.mono (by decide) (by decide)⟩
  show own_Q1_1 Z q_1 a_2 g_ h0 n0 _ T12.heap _
  rw [e12]
  exact ⟨rfl, N12, K12, V12⟩
theorem own_ef_own_rm1_2 (m : MethodId) (x0 : Int64) (x1 : Addr) : entryFrame m #[(.long x0), (.ref x1), (.int (2 : Int32))] 4 = mkF m 0 #[.val (.long x0), .second, .val (.ref x1), .val (.int (2 : Int32))] [] := by first | (simp [entryFrame, mkF, argsToLocals, Value.category]; done) | rfl
def own_Q1_2 (Z : State) (q_1 : Int64) (a_2 : Addr) (g_ : Nat → Value) (h0 : Heap) (n0 : Nat) (v : Option Value) (h : Heap) (L : List Loc) : Prop := v = none ∧ Fr n0 L ∧ Keep h0 h [a_2] ∧ own_AV Z h a_2 .char (6 : Int32) (own_upd (own_upd (own_upd (own_upd g_ 2 (.int ((q_1.toInt32).toUInt32.toUInt16.toUInt32.toInt32))) 3 (.int ((((q_1.toUInt64 >>> ((16 : Int32) &&& 0x3f).toInt64.toUInt64).toInt64).toInt32).toUInt32.toUInt16.toUInt32.toInt32))) 4 (.int ((((q_1.toUInt64 >>> ((32 : Int32) &&& 0x3f).toInt64.toUInt64).toInt64).toInt32).toUInt32.toUInt16.toUInt32.toInt32))) 5 (.int ((((q_1.toUInt64 >>> ((48 : Int32) &&& 0x3f).toInt64.toUInt64).toInt64).toInt32).toUInt32.toUInt16.toUInt32.toInt32)))
set_option maxRecDepth 65536 in
set_option maxHeartbeats 40000000 in
theorem own_rm1_2 (l : Launch) (Z : State) (a0 : Array Value) (hw : ∀ d ∈ tables_1, d.before a0 Z = true) (ws : List Jvm.Cond) (q_1 : Int64) (a_2 : Addr) (g_ : Nat → Value) (h0 : Heap) (n0 : Nat) (Z0 : n0 ≤ h0.size) (pr_A_a_2 : own_AV Z h0 a_2 .char (6 : Int32) g_) (gw_a_2 : n0 ≤ a_2) :
    MetFree l (⟨"com/example/honest_codec/honestcodec/Words", "putLanes", "(J[CI)V"⟩ : MethodName) (head1 (Jvm.Cond.code (⟨"com/example/honest_codec/honestcodec/Words", "putLanes", "(J[CI)V"⟩ : MethodName) prog_36_method_3_code 4 none :: ws) ({ frames := 0, cells := 0, slots := 0, locals := 0 } : Room)) (fun a U => a = #[(.long q_1), (.ref a_2), (.int (2 : Int32))] ∧ Z.Warmed39 U.vm ∧ U.heap = h0) (fun _ _ _ _ _ => True) (fun _ U o U' => ∃ v L, o = .returned v ∧ own_Q1_2 Z q_1 a_2 g_ h0 n0 v U'.heap L ∧ FrameEnd U o U' L ({ frames := 0, cells := 0, slots := 0, locals := 0 } : Room).cells ({ frames := 0, cells := 0, slots := 0, locals := 0 } : Room).slots) := by
  refine MetFree.of_bodySF (plainFor_of_name own_pn0) hisR ?_
  intro p e s m args below meth c s₁ Bd hml0 hP hK
  obtain ⟨rfl, hZ, hh⟩ := hP
  have hx := Bd.exec
  have hby := Bd.bytes
  have hml : c.maxLocals = 4 := hml0
  have hown : s.vm.findClass "com/example/honest_codec/honestcodec/Words" = some m.cls := findClass_of_methodNamed Bd.named
  have hnm := (name_of_methodNamed Bd.named Bd.method).1
  have X0 : Stand p l e ({ frames := 0, cells := 0, slots := 0, locals := 0 } : Room) s m #[(.long q_1), (.ref a_2), (.int (2 : Int32))] below meth c s₁ [] 0 0 := Stand.of_body Bd
  have e0 : s₁.heap = h0 := by rw [← hh, Bd.state]; rfl
  have N0 := Fr.nil n0
  have z0 : n0 ≤ h0.size := Z0
  have z1 := own_lt pr_A_a_2.lt
  have K0 : Keep h0 h0 [a_2] := Keep.refl h0 _
  show own_Go p.tables e below (fun t o => t.status = .running ∧ Ended t below o ∧ ∃ v L, o = .returned v ∧ own_Q1_2 Z q_1 a_2 g_ h0 n0 v t.heap L ∧ FrameEnd s o t L ({ frames := 0, cells := 0, slots := 0, locals := 0 } : Room).cells ({ frames := 0, cells := 0, slots := 0, locals := 0 } : Room).slots) s₁ (entryFrame m #[(.long q_1), (.ref a_2), (.int (2 : Int32))] 4)
  rw [own_ef_own_rm1_2 m q_1 a_2]
  show own_Go _ _ _ _ s₁ (mkF m 0 #[.val (.long q_1), .second, .val (.ref a_2), .val (.int (2 : Int32))] [])
  refine own_go (fun _ k => XS.aloadN X0.here hx rfl (hb hby own_d1_0) rfl rfl k) ?_
  show own_Go _ _ _ _ s₁ (mkF m 1 #[.val (.long q_1), .second, .val (.ref a_2), .val (.int (2 : Int32))] [(.ref a_2)])
  refine own_go (fun _ k => XS.iloadN X0.here hx rfl (hb hby own_d1_1) rfl k) ?_
  show own_Go _ _ _ _ s₁ (mkF m 2 #[.val (.long q_1), .second, .val (.ref a_2), .val (.int (2 : Int32))] [(.int (2 : Int32)), (.ref a_2)])
  refine own_go (fun _ k => XS.lloadN X0.here hx rfl (hb hby own_d1_2) rfl k) ?_
  show own_Go _ _ _ _ s₁ (mkF m 3 #[.val (.long q_1), .second, .val (.ref a_2), .val (.int (2 : Int32))] [(.long q_1), (.int (2 : Int32)), (.ref a_2)])
  refine own_go (fun _ k => XS.l2i X0.here hx rfl (hb hby own_d1_3) rfl k) ?_
  show own_Go _ _ _ _ s₁ (mkF m 4 #[.val (.long q_1), .second, .val (.ref a_2), .val (.int (2 : Int32))] [(.int (q_1.toInt32)), (.int (2 : Int32)), (.ref a_2)])
  refine own_go (fun _ k => XS.i2c X0.here hx rfl (hb hby own_d1_4) rfl k) ?_
  show own_Go _ _ _ _ s₁ (mkF m 5 #[.val (.long q_1), .second, .val (.ref a_2), .val (.int (2 : Int32))] [(.int ((q_1.toInt32).toUInt32.toUInt16.toUInt32.toInt32)), (.int (2 : Int32)), (.ref a_2)])
  obtain ⟨q2, c2, R2, s2, t2⟩ := id pr_A_a_2
  have hin2 : ¬ ((2 : Int32) < 0 ∨ c2.slots.size ≤ ((2 : Int32)).toNatClampNeg) := inb_of s2 ⟨by decide, by decide⟩
  obtain ⟨T3, h3, X3, e3, W3, st3⟩ := stC X0 hx hZ e0 R2 (j := (2 : Int32)) hin2 (g := (mkF m 5 #[.val (.long q_1), .second, .val (.ref a_2), .val (.int (2 : Int32))] [(.int ((q_1.toInt32).toUInt32.toUInt16.toUInt32.toInt32)), (.int (2 : Int32)), (.ref a_2)])) rfl rfl (hb hby own_d1_5)
  rw [own_nar_c] at W3
  have V3 : own_AV Z h3 a_2 .char (6 : Int32) (own_upd g_ 2 (.int ((q_1.toInt32).toUInt32.toUInt16.toUInt32.toInt32))) := own_AV.set (k := 2) pr_A_a_2 W3 (by decide)
  have z4 := W3.size
  have K3 : Keep h0 h3 [a_2] := K0.wr W3 (Or.inl (List.mem_of_getElem? (i := 0) rfl))
  have N3 := Fr.snoc X3 N0 (by omega : n0 ≤ a_2)
  refine own_go (fun _ k => st3 _ k) ?_
  show own_Go _ _ _ _ T3 (mkF m 6 #[.val (.long q_1), .second, .val (.ref a_2), .val (.int (2 : Int32))] [])
  refine own_go (fun _ k => XS.aloadN X3.here hx rfl (hb hby own_d1_6) rfl rfl k) ?_
  show own_Go _ _ _ _ T3 (mkF m 7 #[.val (.long q_1), .second, .val (.ref a_2), .val (.int (2 : Int32))] [(.ref a_2)])
  refine own_go (fun _ k => XS.iloadN X3.here hx rfl (hb hby own_d1_7) rfl k) ?_
  show own_Go _ _ _ _ T3 (mkF m 8 #[.val (.long q_1), .second, .val (.ref a_2), .val (.int (2 : Int32))] [(.int (2 : Int32)), (.ref a_2)])
  refine own_go (fun _ k => XS.iconst X3.here hx rfl (hb hby own_d1_8) k) ?_
  show own_Go _ _ _ _ T3 (mkF m 9 #[.val (.long q_1), .second, .val (.ref a_2), .val (.int (2 : Int32))] [(.int (1 : Int32)), (.int (2 : Int32)), (.ref a_2)])
  refine own_go (fun _ k => XS.iadd X3.here hx rfl (hb hby own_d1_9) rfl k) ?_
  show own_Go _ _ _ _ T3 (mkF m 10 #[.val (.long q_1), .second, .val (.ref a_2), .val (.int (2 : Int32))] [(.int (3 : Int32)), (.ref a_2)])
  refine own_go (fun _ k => XS.lloadN X3.here hx rfl (hb hby own_d1_10) rfl k) ?_
  show own_Go _ _ _ _ T3 (mkF m 11 #[.val (.long q_1), .second, .val (.ref a_2), .val (.int (2 : Int32))] [(.long q_1), (.int (3 : Int32)), (.ref a_2)])
  refine own_go (fun _ k => XS.bipush X3.here hx rfl (hb hby own_d1_11) k) ?_
  show own_Go _ _ _ _ T3 (mkF m 13 #[.val (.long q_1), .second, .val (.ref a_2), .val (.int (2 : Int32))] [(.int (16 : Int32)), (.long q_1), (.int (3 : Int32)), (.ref a_2)])
  refine own_go (fun _ k => XS.lushr X3.here hx rfl (hb hby own_d1_13) rfl k) ?_
  show own_Go _ _ _ _ T3 (mkF m 14 #[.val (.long q_1), .second, .val (.ref a_2), .val (.int (2 : Int32))] [(.long ((q_1.toUInt64 >>> ((16 : Int32) &&& 0x3f).toInt64.toUInt64).toInt64)), (.int (3 : Int32)), (.ref a_2)])
  refine own_go (fun _ k => XS.l2i X3.here hx rfl (hb hby own_d1_14) rfl k) ?_
  show own_Go _ _ _ _ T3 (mkF m 15 #[.val (.long q_1), .second, .val (.ref a_2), .val (.int (2 : Int32))] [(.int (((q_1.toUInt64 >>> ((16 : Int32) &&& 0x3f).toInt64.toUInt64).toInt64).toInt32)), (.int (3 : Int32)), (.ref a_2)])
  refine own_go (fun _ k => XS.i2c X3.here hx rfl (hb hby own_d1_15) rfl k) ?_
  show own_Go _ _ _ _ T3 (mkF m 16 #[.val (.long q_1), .second, .val (.ref a_2), .val (.int (2 : Int32))] [(.int ((((q_1.toUInt64 >>> ((16 : Int32) &&& 0x3f).toInt64.toUInt64).toInt64).toInt32).toUInt32.toUInt16.toUInt32.toInt32)), (.int (3 : Int32)), (.ref a_2)])
  obtain ⟨q5, c5, R5, s5, t5⟩ := id V3
  have hin5 : ¬ ((3 : Int32) < 0 ∨ c5.slots.size ≤ ((3 : Int32)).toNatClampNeg) := inb_of s5 ⟨by decide, by decide⟩
  obtain ⟨T6, h6, X6, e6, W6, st6⟩ := stC X3 hx hZ e3 R5 (j := (3 : Int32)) hin5 (g := (mkF m 16 #[.val (.long q_1), .second, .val (.ref a_2), .val (.int (2 : Int32))] [(.int ((((q_1.toUInt64 >>> ((16 : Int32) &&& 0x3f).toInt64.toUInt64).toInt64).toInt32).toUInt32.toUInt16.toUInt32.toInt32)), (.int (3 : Int32)), (.ref a_2)])) rfl rfl (hb hby own_d1_16)
  rw [own_nar_c] at W6
  have V6 : own_AV Z h6 a_2 .char (6 : Int32) (own_upd (own_upd g_ 2 (.int ((q_1.toInt32).toUInt32.toUInt16.toUInt32.toInt32))) 3 (.int ((((q_1.toUInt64 >>> ((16 : Int32) &&& 0x3f).toInt64.toUInt64).toInt64).toInt32).toUInt32.toUInt16.toUInt32.toInt32))) := own_AV.set (k := 3) V3 W6 (by decide)
  have z7 := W6.size
  have K6 : Keep h0 h6 [a_2] := K3.wr W6 (Or.inl (List.mem_of_getElem? (i := 0) rfl))
  have N6 := Fr.snoc X6 N3 (by omega : n0 ≤ a_2)
  refine own_go (fun _ k => st6 _ k) ?_
  show own_Go _ _ _ _ T6 (mkF m 17 #[.val (.long q_1), .second, .val (.ref a_2), .val (.int (2 : Int32))] [])
  refine own_go (fun _ k => XS.aloadN X6.here hx rfl (hb hby own_d1_17) rfl rfl k) ?_
  show own_Go _ _ _ _ T6 (mkF m 18 #[.val (.long q_1), .second, .val (.ref a_2), .val (.int (2 : Int32))] [(.ref a_2)])
  refine own_go (fun _ k => XS.iloadN X6.here hx rfl (hb hby own_d1_18) rfl k) ?_
  show own_Go _ _ _ _ T6 (mkF m 19 #[.val (.long q_1), .second, .val (.ref a_2), .val (.int (2 : Int32))] [(.int (2 : Int32)), (.ref a_2)])
  refine own_go (fun _ k => XS.iconst X6.here hx rfl (hb hby own_d1_19) k) ?_
  show own_Go _ _ _ _ T6 (mkF m 20 #[.val (.long q_1), .second, .val (.ref a_2), .val (.int (2 : Int32))] [(.int (2 : Int32)), (.int (2 : Int32)), (.ref a_2)])
  refine own_go (fun _ k => XS.iadd X6.here hx rfl (hb hby own_d1_20) rfl k) ?_
  show own_Go _ _ _ _ T6 (mkF m 21 #[.val (.long q_1), .second, .val (.ref a_2), .val (.int (2 : Int32))] [(.int (4 : Int32)), (.ref a_2)])
  refine own_go (fun _ k => XS.lloadN X6.here hx rfl (hb hby own_d1_21) rfl k) ?_
  show own_Go _ _ _ _ T6 (mkF m 22 #[.val (.long q_1), .second, .val (.ref a_2), .val (.int (2 : Int32))] [(.long q_1), (.int (4 : Int32)), (.ref a_2)])
  refine own_go (fun _ k => XS.bipush X6.here hx rfl (hb hby own_d1_22) k) ?_
  show own_Go _ _ _ _ T6 (mkF m 24 #[.val (.long q_1), .second, .val (.ref a_2), .val (.int (2 : Int32))] [(.int (32 : Int32)), (.long q_1), (.int (4 : Int32)), (.ref a_2)])
  refine own_go (fun _ k => XS.lushr X6.here hx rfl (hb hby own_d1_24) rfl k) ?_
  show own_Go _ _ _ _ T6 (mkF m 25 #[.val (.long q_1), .second, .val (.ref a_2), .val (.int (2 : Int32))] [(.long ((q_1.toUInt64 >>> ((32 : Int32) &&& 0x3f).toInt64.toUInt64).toInt64)), (.int (4 : Int32)), (.ref a_2)])
  refine own_go (fun _ k => XS.l2i X6.here hx rfl (hb hby own_d1_25) rfl k) ?_
  show own_Go _ _ _ _ T6 (mkF m 26 #[.val (.long q_1), .second, .val (.ref a_2), .val (.int (2 : Int32))] [(.int (((q_1.toUInt64 >>> ((32 : Int32) &&& 0x3f).toInt64.toUInt64).toInt64).toInt32)), (.int (4 : Int32)), (.ref a_2)])
  refine own_go (fun _ k => XS.i2c X6.here hx rfl (hb hby own_d1_26) rfl k) ?_
  show own_Go _ _ _ _ T6 (mkF m 27 #[.val (.long q_1), .second, .val (.ref a_2), .val (.int (2 : Int32))] [(.int ((((q_1.toUInt64 >>> ((32 : Int32) &&& 0x3f).toInt64.toUInt64).toInt64).toInt32).toUInt32.toUInt16.toUInt32.toInt32)), (.int (4 : Int32)), (.ref a_2)])
  obtain ⟨q8, c8, R8, s8, t8⟩ := id V6
  have hin8 : ¬ ((4 : Int32) < 0 ∨ c8.slots.size ≤ ((4 : Int32)).toNatClampNeg) := inb_of s8 ⟨by decide, by decide⟩
  obtain ⟨T9, h9, X9, e9, W9, st9⟩ := stC X6 hx hZ e6 R8 (j := (4 : Int32)) hin8 (g := (mkF m 27 #[.val (.long q_1), .second, .val (.ref a_2), .val (.int (2 : Int32))] [(.int ((((q_1.toUInt64 >>> ((32 : Int32) &&& 0x3f).toInt64.toUInt64).toInt64).toInt32).toUInt32.toUInt16.toUInt32.toInt32)), (.int (4 : Int32)), (.ref a_2)])) rfl rfl (hb hby own_d1_27)
  rw [own_nar_c] at W9
  have V9 : own_AV Z h9 a_2 .char (6 : Int32) (own_upd (own_upd (own_upd g_ 2 (.int ((q_1.toInt32).toUInt32.toUInt16.toUInt32.toInt32))) 3 (.int ((((q_1.toUInt64 >>> ((16 : Int32) &&& 0x3f).toInt64.toUInt64).toInt64).toInt32).toUInt32.toUInt16.toUInt32.toInt32))) 4 (.int ((((q_1.toUInt64 >>> ((32 : Int32) &&& 0x3f).toInt64.toUInt64).toInt64).toInt32).toUInt32.toUInt16.toUInt32.toInt32))) := own_AV.set (k := 4) V6 W9 (by decide)
  have z10 := W9.size
  have K9 : Keep h0 h9 [a_2] := K6.wr W9 (Or.inl (List.mem_of_getElem? (i := 0) rfl))
  have N9 := Fr.snoc X9 N6 (by omega : n0 ≤ a_2)
  refine own_go (fun _ k => st9 _ k) ?_
  show own_Go _ _ _ _ T9 (mkF m 28 #[.val (.long q_1), .second, .val (.ref a_2), .val (.int (2 : Int32))] [])
  refine own_go (fun _ k => XS.aloadN X9.here hx rfl (hb hby own_d1_28) rfl rfl k) ?_
  show own_Go _ _ _ _ T9 (mkF m 29 #[.val (.long q_1), .second, .val (.ref a_2), .val (.int (2 : Int32))] [(.ref a_2)])
  refine own_go (fun _ k => XS.iloadN X9.here hx rfl (hb hby own_d1_29) rfl k) ?_
  show own_Go _ _ _ _ T9 (mkF m 30 #[.val (.long q_1), .second, .val (.ref a_2), .val (.int (2 : Int32))] [(.int (2 : Int32)), (.ref a_2)])
  refine own_go (fun _ k => XS.iconst X9.here hx rfl (hb hby own_d1_30) k) ?_
  show own_Go _ _ _ _ T9 (mkF m 31 #[.val (.long q_1), .second, .val (.ref a_2), .val (.int (2 : Int32))] [(.int (3 : Int32)), (.int (2 : Int32)), (.ref a_2)])
  refine own_go (fun _ k => XS.iadd X9.here hx rfl (hb hby own_d1_31) rfl k) ?_
  show own_Go _ _ _ _ T9 (mkF m 32 #[.val (.long q_1), .second, .val (.ref a_2), .val (.int (2 : Int32))] [(.int (5 : Int32)), (.ref a_2)])
  refine own_go (fun _ k => XS.lloadN X9.here hx rfl (hb hby own_d1_32) rfl k) ?_
  show own_Go _ _ _ _ T9 (mkF m 33 #[.val (.long q_1), .second, .val (.ref a_2), .val (.int (2 : Int32))] [(.long q_1), (.int (5 : Int32)), (.ref a_2)])
  refine own_go (fun _ k => XS.bipush X9.here hx rfl (hb hby own_d1_33) k) ?_
  show own_Go _ _ _ _ T9 (mkF m 35 #[.val (.long q_1), .second, .val (.ref a_2), .val (.int (2 : Int32))] [(.int (48 : Int32)), (.long q_1), (.int (5 : Int32)), (.ref a_2)])
  refine own_go (fun _ k => XS.lushr X9.here hx rfl (hb hby own_d1_35) rfl k) ?_
  show own_Go _ _ _ _ T9 (mkF m 36 #[.val (.long q_1), .second, .val (.ref a_2), .val (.int (2 : Int32))] [(.long ((q_1.toUInt64 >>> ((48 : Int32) &&& 0x3f).toInt64.toUInt64).toInt64)), (.int (5 : Int32)), (.ref a_2)])
  refine own_go (fun _ k => XS.l2i X9.here hx rfl (hb hby own_d1_36) rfl k) ?_
  show own_Go _ _ _ _ T9 (mkF m 37 #[.val (.long q_1), .second, .val (.ref a_2), .val (.int (2 : Int32))] [(.int (((q_1.toUInt64 >>> ((48 : Int32) &&& 0x3f).toInt64.toUInt64).toInt64).toInt32)), (.int (5 : Int32)), (.ref a_2)])
  refine own_go (fun _ k => XS.i2c X9.here hx rfl (hb hby own_d1_37) rfl k) ?_
  show own_Go _ _ _ _ T9 (mkF m 38 #[.val (.long q_1), .second, .val (.ref a_2), .val (.int (2 : Int32))] [(.int ((((q_1.toUInt64 >>> ((48 : Int32) &&& 0x3f).toInt64.toUInt64).toInt64).toInt32).toUInt32.toUInt16.toUInt32.toInt32)), (.int (5 : Int32)), (.ref a_2)])
  obtain ⟨q11, c11, R11, s11, t11⟩ := id V9
  have hin11 : ¬ ((5 : Int32) < 0 ∨ c11.slots.size ≤ ((5 : Int32)).toNatClampNeg) := inb_of s11 ⟨by decide, by decide⟩
  obtain ⟨T12, h12, X12, e12, W12, st12⟩ := stC X9 hx hZ e9 R11 (j := (5 : Int32)) hin11 (g := (mkF m 38 #[.val (.long q_1), .second, .val (.ref a_2), .val (.int (2 : Int32))] [(.int ((((q_1.toUInt64 >>> ((48 : Int32) &&& 0x3f).toInt64.toUInt64).toInt64).toInt32).toUInt32.toUInt16.toUInt32.toInt32)), (.int (5 : Int32)), (.ref a_2)])) rfl rfl (hb hby own_d1_38)
  rw [own_nar_c] at W12
  have V12 : own_AV Z h12 a_2 .char (6 : Int32) (own_upd (own_upd (own_upd (own_upd g_ 2 (.int ((q_1.toInt32).toUInt32.toUInt16.toUInt32.toInt32))) 3 (.int ((((q_1.toUInt64 >>> ((16 : Int32) &&& 0x3f).toInt64.toUInt64).toInt64).toInt32).toUInt32.toUInt16.toUInt32.toInt32))) 4 (.int ((((q_1.toUInt64 >>> ((32 : Int32) &&& 0x3f).toInt64.toUInt64).toInt64).toInt32).toUInt32.toUInt16.toUInt32.toInt32))) 5 (.int ((((q_1.toUInt64 >>> ((48 : Int32) &&& 0x3f).toInt64.toUInt64).toInt64).toInt32).toUInt32.toUInt16.toUInt32.toInt32))) := own_AV.set (k := 5) V9 W12 (by decide)
  have z13 := W12.size
  have K12 : Keep h0 h12 [a_2] := K9.wr W12 (Or.inl (List.mem_of_getElem? (i := 0) rfl))
  have N12 := Fr.snoc X12 N9 (by omega : n0 ≤ a_2)
  refine own_go (fun _ k => st12 _ k) ?_
  show own_Go _ _ _ _ T12 (mkF m 39 #[.val (.long q_1), .second, .val (.ref a_2), .val (.int (2 : Int32))] [])
  obtain ⟨fs, hr, hrun, hended, hW, hsame⟩ := X12.leave (v := none) (fun _ => rfl)
  refine ⟨_, _, X12.returnOut hx Bd.returns (hb hby own_d1_39) hr, hrun, hended, _, _, rfl, ?_, ⟨_, rfl⟩, hW, hsame.mono (by decide) (by decide)⟩
  show own_Q1_2 Z q_1 a_2 g_ h0 n0 _ T12.heap _
  rw [e12]
  exact ⟨rfl, N12, K12, V12⟩
theorem own_lo (y : BitVec 64) : BitVec.signExtend 64 (BitVec.signExtend 32 y % 65536#32) = y &&& 65535#64 := by
  have h1 : BitVec.signExtend 32 y = y.setWidth 32 := BitVec.signExtend_eq_setWidth_of_le _ (by decide)
  rw [h1]
  have hm : (y.setWidth 32 % 65536#32).msb = false := by
    rw [BitVec.msb_eq_false_iff_two_mul_lt]
    have := Nat.mod_lt (y.setWidth 32).toNat (show 65536 > 0 by decide)
    rw [BitVec.toNat_umod]
    show 2 * ((y.setWidth 32).toNat % 65536) < _
    omega
  rw [BitVec.signExtend_eq_setWidth_of_msb_false hm]
  apply BitVec.eq_of_toNat_eq
  have h2 : (65535#64).toNat = 2 ^ 16 - 1 := by decide
  have hy := y.isLt
  rw [BitVec.toNat_and, h2, Nat.and_two_pow_sub_one_eq_mod, BitVec.toNat_setWidth, BitVec.toNat_umod, BitVec.toNat_setWidth]
  show (y.toNat % 2 ^ 32 % 65536) % 2 ^ 64 = _
  omega
theorem own_b16 (i : Nat) : (65535#64).getLsbD i = decide (i < 16) := by
  have : (65535#64) = BitVec.ofNat 64 (2 ^ 16 - 1) := by decide
  rw [this, BitVec.getLsbD_ofNat, Nat.testBit_two_pow_sub_one]
  by_cases h : i < 16 <;> simp [h]; omega
theorem own_join (x : BitVec 64) : ((x &&& 65535#64) ||| ((x >>> 16) &&& 65535#64) <<< 16 ||| ((x >>> 32) &&& 65535#64) <<< 32 ||| ((x >>> 48) &&& 65535#64) <<< 48) = x := by
  apply BitVec.eq_of_getLsbD_eq
  intro i hi
  simp only [BitVec.getLsbD_or, BitVec.getLsbD_and, BitVec.getLsbD_shiftLeft, BitVec.getLsbD_ushiftRight, own_b16]
  by_cases h1 : i < 16
  · simp [h1, show i < 32 by omega, show i < 48 by omega, hi]
  · by_cases h2 : i < 32
    · simp [h1, h2, hi, show i < 48 by omega, show i - 16 < 16 by omega, show 16 + (i - 16) = i by omega]
    · by_cases h3 : i < 48
      · simp [h1, h2, h3, hi, show ¬ i - 16 < 16 by omega, show i - 32 < 16 by omega, show 32 + (i - 32) = i by omega]
      · simp [h1, h2, h3, hi, show ¬ i - 16 < 16 by omega, show ¬ i - 32 < 16 by omega, show i - 48 < 16 by omega, show 48 + (i - 48) = i by omega]
abbrev own_c (x : Int32) : Int32 := x.toUInt32.toUInt16.toUInt32.toInt32
theorem own_lanes (q : Int64) : (((((own_c q.toInt32).toInt64) ||| (((own_c ((q.toUInt64 >>> ((16 : Int32) &&& 0x3f).toInt64.toUInt64).toInt64).toInt32).toInt64) <<< ((16 : Int32) &&& 0x3f).toInt64)) ||| (((own_c ((q.toUInt64 >>> ((32 : Int32) &&& 0x3f).toInt64.toUInt64).toInt64).toInt32).toInt64) <<< ((32 : Int32) &&& 0x3f).toInt64)) ||| (((own_c ((q.toUInt64 >>> ((48 : Int32) &&& 0x3f).toInt64.toUInt64).toInt64).toInt32).toInt64) <<< ((48 : Int32) &&& 0x3f).toInt64)) = q := by
  apply Int64.toBitVec_inj.mp
  have e1 : (((16 : Int32) &&& 0x3f).toInt64) = 16 := by decide
  have e2 : (((32 : Int32) &&& 0x3f).toInt64) = 32 := by decide
  have e3 : (((48 : Int32) &&& 0x3f).toInt64) = 48 := by decide
  simp only [e1, e2, e3]
  simp [own_c]
  simp only [own_lo]
  exact own_join _

theorem own_ef_own_rm0 (m : MethodId) (x0 : Int64) (x1 : Int32) (x2 : Int32) : entryFrame m #[(.long x0), (.int x1), (.int x2)] maxLocals = mkF m 0 #[.val (.long x0), .second, .val (.int x1), .val (.int x2), .unset, .unset, .unset, .unset, .unset] [] := by first | (simp [entryFrame, mkF, argsToLocals, Value.category, maxLocals]; done) | rfl
set_option maxRecDepth 65536 in
set_option maxHeartbeats 4000000 in
theorem own_t0_0 (p_3 : Int32)  : nar .char (p_3.toUInt32.toUInt16.toUInt32.toInt32) = (p_3.toUInt32.toUInt16.toUInt32.toInt32) := by
  subst_vars; exact own_nar_c _
set_option maxRecDepth 65536 in
set_option maxHeartbeats 4000000 in
theorem own_t0_1 (p_2 : Int32) (v22 : Int32) (hdv22 : ((p_2 &&& (2147483647 : Int32)) % (3 : Int32)) = v22) : v22 = (0 : Int32) ∨ v22 = (1 : Int32) ∨ v22 = (2 : Int32) := by
  have a := c_mask p_2 2147483647 31 (by decide) (by decide)
  have b := (c_irem (p_2 &&& 2147483647) 3 3 (by decide)).1 (by omega)
  have e0 : (0 : Int32).toInt = 0 := by decide
  have e1 : (1 : Int32).toInt = 1 := by decide
  have e2 : (2 : Int32).toInt = 2 := by decide
  simp only [← Int32.toInt_inj, e0, e1, e2]
  subst_vars
  omega
set_option maxRecDepth 65536 in
set_option maxHeartbeats 4000000 in
theorem own_t0_2 (q_1 : Int64) (v32 : Int64) (hdv32 : ((((((q_1.toInt32).toUInt32.toUInt16.toUInt32.toInt32).toInt64) ||| ((((((q_1.toUInt64 >>> ((16 : Int32) &&& 0x3f).toInt64.toUInt64).toInt64).toInt32).toUInt32.toUInt16.toUInt32.toInt32).toInt64) <<< ((16 : Int32) &&& 0x3f).toInt64)) ||| ((((((q_1.toUInt64 >>> ((32 : Int32) &&& 0x3f).toInt64.toUInt64).toInt64).toInt32).toUInt32.toUInt16.toUInt32.toInt32).toInt64) <<< ((32 : Int32) &&& 0x3f).toInt64)) ||| ((((((q_1.toUInt64 >>> ((48 : Int32) &&& 0x3f).toInt64.toUInt64).toInt64).toInt32).toUInt32.toUInt16.toUInt32.toInt32).toInt64) <<< ((48 : Int32) &&& 0x3f).toInt64)) = v32) : v32 = q_1 := by
  subst_vars; exact own_lanes _
set_option maxRecDepth 65536 in
set_option maxHeartbeats 4000000 in
theorem own_t0_3 (q_1 : Int64) (v51 : Int64) (hdv51 : ((((((q_1.toInt32).toUInt32.toUInt16.toUInt32.toInt32).toInt64) ||| ((((((q_1.toUInt64 >>> ((16 : Int32) &&& 0x3f).toInt64.toUInt64).toInt64).toInt32).toUInt32.toUInt16.toUInt32.toInt32).toInt64) <<< ((16 : Int32) &&& 0x3f).toInt64)) ||| ((((((q_1.toUInt64 >>> ((32 : Int32) &&& 0x3f).toInt64.toUInt64).toInt64).toInt32).toUInt32.toUInt16.toUInt32.toInt32).toInt64) <<< ((32 : Int32) &&& 0x3f).toInt64)) ||| ((((((q_1.toUInt64 >>> ((48 : Int32) &&& 0x3f).toInt64.toUInt64).toInt64).toInt32).toUInt32.toUInt16.toUInt32.toInt32).toInt64) <<< ((48 : Int32) &&& 0x3f).toInt64)) = v51) : v51 = q_1 := by
  subst_vars; exact own_lanes _
set_option maxRecDepth 65536 in
set_option maxHeartbeats 4000000 in
theorem own_t0_4 (q_1 : Int64) (v70 : Int64) (hdv70 : ((((((q_1.toInt32).toUInt32.toUInt16.toUInt32.toInt32).toInt64) ||| ((((((q_1.toUInt64 >>> ((16 : Int32) &&& 0x3f).toInt64.toUInt64).toInt64).toInt32).toUInt32.toUInt16.toUInt32.toInt32).toInt64) <<< ((16 : Int32) &&& 0x3f).toInt64)) ||| ((((((q_1.toUInt64 >>> ((32 : Int32) &&& 0x3f).toInt64.toUInt64).toInt64).toInt32).toUInt32.toUInt16.toUInt32.toInt32).toInt64) <<< ((32 : Int32) &&& 0x3f).toInt64)) ||| ((((((q_1.toUInt64 >>> ((48 : Int32) &&& 0x3f).toInt64.toUInt64).toInt64).toInt32).toUInt32.toUInt16.toUInt32.toInt32).toInt64) <<< ((48 : Int32) &&& 0x3f).toInt64)) = v70) : v70 = q_1 := by
  subst_vars; exact own_lanes _
def own_Q0 (Z : State) (q_1 : Int64) (p_2 : Int32) (p_3 : Int32) (h0 : Heap) (n0 : Nat) (v : Option Value) (h : Heap) (L : List Loc) : Prop := v = some (.int (1 : Int32)) ∧ Fr n0 L
set_option maxRecDepth 65536 in
set_option maxHeartbeats 40000000 in
theorem own_rm0 (l : Launch) (Z : State) (a0 : Array Value) (hw : ∀ d ∈ tables_1, d.before a0 Z = true) (ws : List Jvm.Cond) (q_1 : Int64) (p_2 : Int32) (p_3 : Int32) (h0 : Heap) (n0 : Nat) (Z0 : n0 ≤ h0.size) :
    MetFree l x (head1 (Jvm.Cond.code x code maxLocals ret :: ws) room_1) (fun a U => a = #[(.long q_1), (.int p_2), (.int p_3)] ∧ Z.Warmed39 U.vm ∧ U.heap = h0) (fun _ _ _ _ _ => True) (fun _ U o U' => ∃ v L, o = .returned v ∧ own_Q0 Z q_1 p_2 p_3 h0 n0 v U'.heap L ∧ FrameEnd U o U' L 1 6) := by
  refine MetFree.of_bodySF (plainFor_of_name own_pn1) hisR ?_
  intro p e s m args below meth c s₁ Bd hml0 hP hK
  obtain ⟨rfl, hZ, hh⟩ := hP
  have hx := Bd.exec
  have hby := Bd.bytes
  have hml : c.maxLocals = 9 := hml0
  have hown : s.vm.findClass "com/example/honest_codec/honestcodec/WordsPutLanesPinLaw" = some m.cls := findClass_of_methodNamed Bd.named
  have hnm := (name_of_methodNamed Bd.named Bd.method).1
  have X0 : Stand p l e room_1 s m #[(.long q_1), (.int p_2), (.int p_3)] below meth c s₁ [] 0 0 := Stand.of_body Bd
  have e0 : s₁.heap = h0 := by rw [← hh, Bd.state]; rfl
  have N0 := Fr.nil n0
  have z0 : n0 ≤ h0.size := Z0
  show own_Go p.tables e below (fun t o => t.status = .running ∧ Ended t below o ∧ ∃ v L, o = .returned v ∧ own_Q0 Z q_1 p_2 p_3 h0 n0 v t.heap L ∧ FrameEnd s o t L 1 6) s₁ (entryFrame m #[(.long q_1), (.int p_2), (.int p_3)] maxLocals)
  rw [own_ef_own_rm0 m q_1 p_2 p_3]
  show own_Go _ _ _ _ s₁ (mkF m 0 #[.val (.long q_1), .second, .val (.int p_2), .val (.int p_3), .unset, .unset, .unset, .unset, .unset] [])
  refine own_go (fun _ k => XS.iloadN X0.here hx rfl (hb hby at_0) rfl k) ?_
  show own_Go _ _ _ _ s₁ (mkF m 1 #[.val (.long q_1), .second, .val (.int p_2), .val (.int p_3), .unset, .unset, .unset, .unset, .unset] [(.int p_3)])
  refine own_go (fun _ k => XS.i2c X0.here hx rfl (hb hby at_1) rfl k) ?_
  show own_Go _ _ _ _ s₁ (mkF m 2 #[.val (.long q_1), .second, .val (.int p_2), .val (.int p_3), .unset, .unset, .unset, .unset, .unset] [(.int (p_3.toUInt32.toUInt16.toUInt32.toInt32))])
  refine own_go (fun _ k => XS.istore X0.here hx rfl (hb hby at_2) rfl (l' := #[.val (.long q_1), .second, .val (.int p_2), .val (.int p_3), .val (.int (p_3.toUInt32.toUInt16.toUInt32.toInt32)), .unset, .unset, .unset, .unset]) rfl k) ?_
  show own_Go _ _ _ _ s₁ (mkF m 4 #[.val (.long q_1), .second, .val (.int p_2), .val (.int p_3), .val (.int (p_3.toUInt32.toUInt16.toUInt32.toInt32)), .unset, .unset, .unset, .unset] [])
  have hn4 : nar .char (p_3.toUInt32.toUInt16.toUInt32.toInt32) = (p_3.toUInt32.toUInt16.toUInt32.toInt32) := own_t0_0 p_3 
  refine own_go (fun _ k => XS.bipush X0.here hx rfl (hb hby at_4) k) ?_
  show own_Go _ _ _ _ s₁ (mkF m 6 #[.val (.long q_1), .second, .val (.int p_2), .val (.int p_3), .val (.int (p_3.toUInt32.toUInt16.toUInt32.toInt32)), .unset, .unset, .unset, .unset] [(.int (6 : Int32))])
  obtain ⟨T1, h1, k1, X1, e1, E1, A1, st1⟩ := newP X0 hx hZ (hw _ (List.mem_of_getElem? (i := 0) rfl)) e0 (g := (mkF m 6 #[.val (.long q_1), .second, .val (.int p_2), .val (.int p_3), .val (.int (p_3.toUInt32.toUInt16.toUInt32.toInt32)), .unset, .unset, .unset, .unset] [(.int (6 : Int32))])) rfl (hb hby at_6) rfl (by decide) (cap := 6) (by decide) (by decide) (by decide) (by decide)
  obtain ⟨b1, g1⟩ : ∃ z, z = h0.size := ⟨_, rfl⟩
  rw [← g1] at A1 st1
  have z2 := E1.1
  have lt_b1 := own_lt A1.lt
  have V_b1 : own_AV Z h1 b1 .char (6 : Int32) (fun _ => (.int (0 : Int32))) := own_AV.new A1 (by decide)
  refine own_go (fun _ k => st1 _ k) ?_
  show own_Go _ _ _ _ T1 (mkF m 8 #[.val (.long q_1), .second, .val (.int p_2), .val (.int p_3), .val (.int (p_3.toUInt32.toUInt16.toUInt32.toInt32)), .unset, .unset, .unset, .unset] [(.ref b1)])
  refine own_go (fun _ k => XS.astore X1.here hx rfl (hb hby at_8) rfl rfl (l' := #[.val (.long q_1), .second, .val (.int p_2), .val (.int p_3), .val (.int (p_3.toUInt32.toUInt16.toUInt32.toInt32)), .val (.ref b1), .unset, .unset, .unset]) rfl k) ?_
  show own_Go _ _ _ _ T1 (mkF m 10 #[.val (.long q_1), .second, .val (.int p_2), .val (.int p_3), .val (.int (p_3.toUInt32.toUInt16.toUInt32.toInt32)), .val (.ref b1), .unset, .unset, .unset] [])
  refine own_go (fun _ k => XS.aload X1.here hx rfl (hb hby at_10) rfl rfl k) ?_
  show own_Go _ _ _ _ T1 (mkF m 12 #[.val (.long q_1), .second, .val (.int p_2), .val (.int p_3), .val (.int (p_3.toUInt32.toUInt16.toUInt32.toInt32)), .val (.ref b1), .unset, .unset, .unset] [(.ref b1)])
  refine own_go (fun _ k => XS.iconst X1.here hx rfl (hb hby at_12) k) ?_
  show own_Go _ _ _ _ T1 (mkF m 13 #[.val (.long q_1), .second, .val (.int p_2), .val (.int p_3), .val (.int (p_3.toUInt32.toUInt16.toUInt32.toInt32)), .val (.ref b1), .unset, .unset, .unset] [(.int (0 : Int32)), (.ref b1)])
  refine own_go (fun _ k => XS.iload X1.here hx rfl (hb hby at_13) rfl k) ?_
  show own_Go _ _ _ _ T1 (mkF m 15 #[.val (.long q_1), .second, .val (.int p_2), .val (.int p_3), .val (.int (p_3.toUInt32.toUInt16.toUInt32.toInt32)), .val (.ref b1), .unset, .unset, .unset] [(.int (p_3.toUInt32.toUInt16.toUInt32.toInt32)), (.int (0 : Int32)), (.ref b1)])
  obtain ⟨q3, c3, R3, s3, t3⟩ := id V_b1
  have hin3 : ¬ ((0 : Int32) < 0 ∨ c3.slots.size ≤ ((0 : Int32)).toNatClampNeg) := inb_of s3 ⟨by decide, by decide⟩
  obtain ⟨T4, h4, X4, e4, W4, st4⟩ := stC X1 hx hZ e1 R3 (j := (0 : Int32)) hin3 (g := (mkF m 15 #[.val (.long q_1), .second, .val (.int p_2), .val (.int p_3), .val (.int (p_3.toUInt32.toUInt16.toUInt32.toInt32)), .val (.ref b1), .unset, .unset, .unset] [(.int (p_3.toUInt32.toUInt16.toUInt32.toInt32)), (.int (0 : Int32)), (.ref b1)])) rfl rfl (hb hby at_15)
  rw [hn4] at W4
  have V4 : own_AV Z h4 b1 .char (6 : Int32) (own_upd (fun _ => (.int (0 : Int32))) 0 (.int (p_3.toUInt32.toUInt16.toUInt32.toInt32))) := own_AV.set (k := 0) V_b1 W4 (by decide)
  have z5 := W4.size
  have N4 := Fr.snoc X4 N0 (by omega : n0 ≤ b1)
  refine own_go (fun _ k => st4 _ k) ?_
  show own_Go _ _ _ _ T4 (mkF m 16 #[.val (.long q_1), .second, .val (.int p_2), .val (.int p_3), .val (.int (p_3.toUInt32.toUInt16.toUInt32.toInt32)), .val (.ref b1), .unset, .unset, .unset] [])
  refine own_go (fun _ k => XS.aload X4.here hx rfl (hb hby at_16) rfl rfl k) ?_
  show own_Go _ _ _ _ T4 (mkF m 18 #[.val (.long q_1), .second, .val (.int p_2), .val (.int p_3), .val (.int (p_3.toUInt32.toUInt16.toUInt32.toInt32)), .val (.ref b1), .unset, .unset, .unset] [(.ref b1)])
  refine own_go (fun _ k => XS.iconst X4.here hx rfl (hb hby at_18) k) ?_
  show own_Go _ _ _ _ T4 (mkF m 19 #[.val (.long q_1), .second, .val (.int p_2), .val (.int p_3), .val (.int (p_3.toUInt32.toUInt16.toUInt32.toInt32)), .val (.ref b1), .unset, .unset, .unset] [(.int (1 : Int32)), (.ref b1)])
  refine own_go (fun _ k => XS.iload X4.here hx rfl (hb hby at_19) rfl k) ?_
  show own_Go _ _ _ _ T4 (mkF m 21 #[.val (.long q_1), .second, .val (.int p_2), .val (.int p_3), .val (.int (p_3.toUInt32.toUInt16.toUInt32.toInt32)), .val (.ref b1), .unset, .unset, .unset] [(.int (p_3.toUInt32.toUInt16.toUInt32.toInt32)), (.int (1 : Int32)), (.ref b1)])
  obtain ⟨q6, c6, R6, s6, t6⟩ := id V4
  have hin6 : ¬ ((1 : Int32) < 0 ∨ c6.slots.size ≤ ((1 : Int32)).toNatClampNeg) := inb_of s6 ⟨by decide, by decide⟩
  obtain ⟨T7, h7, X7, e7, W7, st7⟩ := stC X4 hx hZ e4 R6 (j := (1 : Int32)) hin6 (g := (mkF m 21 #[.val (.long q_1), .second, .val (.int p_2), .val (.int p_3), .val (.int (p_3.toUInt32.toUInt16.toUInt32.toInt32)), .val (.ref b1), .unset, .unset, .unset] [(.int (p_3.toUInt32.toUInt16.toUInt32.toInt32)), (.int (1 : Int32)), (.ref b1)])) rfl rfl (hb hby at_21)
  rw [hn4] at W7
  have V7 : own_AV Z h7 b1 .char (6 : Int32) (own_upd (own_upd (fun _ => (.int (0 : Int32))) 0 (.int (p_3.toUInt32.toUInt16.toUInt32.toInt32))) 1 (.int (p_3.toUInt32.toUInt16.toUInt32.toInt32))) := own_AV.set (k := 1) V4 W7 (by decide)
  have z8 := W7.size
  have N7 := Fr.snoc X7 N4 (by omega : n0 ≤ b1)
  refine own_go (fun _ k => st7 _ k) ?_
  show own_Go _ _ _ _ T7 (mkF m 22 #[.val (.long q_1), .second, .val (.int p_2), .val (.int p_3), .val (.int (p_3.toUInt32.toUInt16.toUInt32.toInt32)), .val (.ref b1), .unset, .unset, .unset] [])
  refine own_go (fun _ k => XS.aload X7.here hx rfl (hb hby at_22) rfl rfl k) ?_
  show own_Go _ _ _ _ T7 (mkF m 24 #[.val (.long q_1), .second, .val (.int p_2), .val (.int p_3), .val (.int (p_3.toUInt32.toUInt16.toUInt32.toInt32)), .val (.ref b1), .unset, .unset, .unset] [(.ref b1)])
  refine own_go (fun _ k => XS.iconst X7.here hx rfl (hb hby at_24) k) ?_
  show own_Go _ _ _ _ T7 (mkF m 25 #[.val (.long q_1), .second, .val (.int p_2), .val (.int p_3), .val (.int (p_3.toUInt32.toUInt16.toUInt32.toInt32)), .val (.ref b1), .unset, .unset, .unset] [(.int (2 : Int32)), (.ref b1)])
  refine own_go (fun _ k => XS.iload X7.here hx rfl (hb hby at_25) rfl k) ?_
  show own_Go _ _ _ _ T7 (mkF m 27 #[.val (.long q_1), .second, .val (.int p_2), .val (.int p_3), .val (.int (p_3.toUInt32.toUInt16.toUInt32.toInt32)), .val (.ref b1), .unset, .unset, .unset] [(.int (p_3.toUInt32.toUInt16.toUInt32.toInt32)), (.int (2 : Int32)), (.ref b1)])
  obtain ⟨q9, c9, R9, s9, t9⟩ := id V7
  have hin9 : ¬ ((2 : Int32) < 0 ∨ c9.slots.size ≤ ((2 : Int32)).toNatClampNeg) := inb_of s9 ⟨by decide, by decide⟩
  obtain ⟨T10, h10, X10, e10, W10, st10⟩ := stC X7 hx hZ e7 R9 (j := (2 : Int32)) hin9 (g := (mkF m 27 #[.val (.long q_1), .second, .val (.int p_2), .val (.int p_3), .val (.int (p_3.toUInt32.toUInt16.toUInt32.toInt32)), .val (.ref b1), .unset, .unset, .unset] [(.int (p_3.toUInt32.toUInt16.toUInt32.toInt32)), (.int (2 : Int32)), (.ref b1)])) rfl rfl (hb hby at_27)
  rw [hn4] at W10
  have V10 : own_AV Z h10 b1 .char (6 : Int32) (own_upd (own_upd (own_upd (fun _ => (.int (0 : Int32))) 0 (.int (p_3.toUInt32.toUInt16.toUInt32.toInt32))) 1 (.int (p_3.toUInt32.toUInt16.toUInt32.toInt32))) 2 (.int (p_3.toUInt32.toUInt16.toUInt32.toInt32))) := own_AV.set (k := 2) V7 W10 (by decide)
  have z11 := W10.size
  have N10 := Fr.snoc X10 N7 (by omega : n0 ≤ b1)
  refine own_go (fun _ k => st10 _ k) ?_
  show own_Go _ _ _ _ T10 (mkF m 28 #[.val (.long q_1), .second, .val (.int p_2), .val (.int p_3), .val (.int (p_3.toUInt32.toUInt16.toUInt32.toInt32)), .val (.ref b1), .unset, .unset, .unset] [])
  refine own_go (fun _ k => XS.aload X10.here hx rfl (hb hby at_28) rfl rfl k) ?_
  show own_Go _ _ _ _ T10 (mkF m 30 #[.val (.long q_1), .second, .val (.int p_2), .val (.int p_3), .val (.int (p_3.toUInt32.toUInt16.toUInt32.toInt32)), .val (.ref b1), .unset, .unset, .unset] [(.ref b1)])
  refine own_go (fun _ k => XS.iconst X10.here hx rfl (hb hby at_30) k) ?_
  show own_Go _ _ _ _ T10 (mkF m 31 #[.val (.long q_1), .second, .val (.int p_2), .val (.int p_3), .val (.int (p_3.toUInt32.toUInt16.toUInt32.toInt32)), .val (.ref b1), .unset, .unset, .unset] [(.int (3 : Int32)), (.ref b1)])
  refine own_go (fun _ k => XS.iload X10.here hx rfl (hb hby at_31) rfl k) ?_
  show own_Go _ _ _ _ T10 (mkF m 33 #[.val (.long q_1), .second, .val (.int p_2), .val (.int p_3), .val (.int (p_3.toUInt32.toUInt16.toUInt32.toInt32)), .val (.ref b1), .unset, .unset, .unset] [(.int (p_3.toUInt32.toUInt16.toUInt32.toInt32)), (.int (3 : Int32)), (.ref b1)])
  obtain ⟨q12, c12, R12, s12, t12⟩ := id V10
  have hin12 : ¬ ((3 : Int32) < 0 ∨ c12.slots.size ≤ ((3 : Int32)).toNatClampNeg) := inb_of s12 ⟨by decide, by decide⟩
  obtain ⟨T13, h13, X13, e13, W13, st13⟩ := stC X10 hx hZ e10 R12 (j := (3 : Int32)) hin12 (g := (mkF m 33 #[.val (.long q_1), .second, .val (.int p_2), .val (.int p_3), .val (.int (p_3.toUInt32.toUInt16.toUInt32.toInt32)), .val (.ref b1), .unset, .unset, .unset] [(.int (p_3.toUInt32.toUInt16.toUInt32.toInt32)), (.int (3 : Int32)), (.ref b1)])) rfl rfl (hb hby at_33)
  rw [hn4] at W13
  have V13 : own_AV Z h13 b1 .char (6 : Int32) (own_upd (own_upd (own_upd (own_upd (fun _ => (.int (0 : Int32))) 0 (.int (p_3.toUInt32.toUInt16.toUInt32.toInt32))) 1 (.int (p_3.toUInt32.toUInt16.toUInt32.toInt32))) 2 (.int (p_3.toUInt32.toUInt16.toUInt32.toInt32))) 3 (.int (p_3.toUInt32.toUInt16.toUInt32.toInt32))) := own_AV.set (k := 3) V10 W13 (by decide)
  have z14 := W13.size
  have N13 := Fr.snoc X13 N10 (by omega : n0 ≤ b1)
  refine own_go (fun _ k => st13 _ k) ?_
  show own_Go _ _ _ _ T13 (mkF m 34 #[.val (.long q_1), .second, .val (.int p_2), .val (.int p_3), .val (.int (p_3.toUInt32.toUInt16.toUInt32.toInt32)), .val (.ref b1), .unset, .unset, .unset] [])
  refine own_go (fun _ k => XS.aload X13.here hx rfl (hb hby at_34) rfl rfl k) ?_
  show own_Go _ _ _ _ T13 (mkF m 36 #[.val (.long q_1), .second, .val (.int p_2), .val (.int p_3), .val (.int (p_3.toUInt32.toUInt16.toUInt32.toInt32)), .val (.ref b1), .unset, .unset, .unset] [(.ref b1)])
  refine own_go (fun _ k => XS.iconst X13.here hx rfl (hb hby at_36) k) ?_
  show own_Go _ _ _ _ T13 (mkF m 37 #[.val (.long q_1), .second, .val (.int p_2), .val (.int p_3), .val (.int (p_3.toUInt32.toUInt16.toUInt32.toInt32)), .val (.ref b1), .unset, .unset, .unset] [(.int (4 : Int32)), (.ref b1)])
  refine own_go (fun _ k => XS.iload X13.here hx rfl (hb hby at_37) rfl k) ?_
  show own_Go _ _ _ _ T13 (mkF m 39 #[.val (.long q_1), .second, .val (.int p_2), .val (.int p_3), .val (.int (p_3.toUInt32.toUInt16.toUInt32.toInt32)), .val (.ref b1), .unset, .unset, .unset] [(.int (p_3.toUInt32.toUInt16.toUInt32.toInt32)), (.int (4 : Int32)), (.ref b1)])
  obtain ⟨q15, c15, R15, s15, t15⟩ := id V13
  have hin15 : ¬ ((4 : Int32) < 0 ∨ c15.slots.size ≤ ((4 : Int32)).toNatClampNeg) := inb_of s15 ⟨by decide, by decide⟩
  obtain ⟨T16, h16, X16, e16, W16, st16⟩ := stC X13 hx hZ e13 R15 (j := (4 : Int32)) hin15 (g := (mkF m 39 #[.val (.long q_1), .second, .val (.int p_2), .val (.int p_3), .val (.int (p_3.toUInt32.toUInt16.toUInt32.toInt32)), .val (.ref b1), .unset, .unset, .unset] [(.int (p_3.toUInt32.toUInt16.toUInt32.toInt32)), (.int (4 : Int32)), (.ref b1)])) rfl rfl (hb hby at_39)
  rw [hn4] at W16
  have V16 : own_AV Z h16 b1 .char (6 : Int32) (own_upd (own_upd (own_upd (own_upd (own_upd (fun _ => (.int (0 : Int32))) 0 (.int (p_3.toUInt32.toUInt16.toUInt32.toInt32))) 1 (.int (p_3.toUInt32.toUInt16.toUInt32.toInt32))) 2 (.int (p_3.toUInt32.toUInt16.toUInt32.toInt32))) 3 (.int (p_3.toUInt32.toUInt16.toUInt32.toInt32))) 4 (.int (p_3.toUInt32.toUInt16.toUInt32.toInt32))) := own_AV.set (k := 4) V13 W16 (by decide)
  have z17 := W16.size
  have N16 := Fr.snoc X16 N13 (by omega : n0 ≤ b1)
  refine own_go (fun _ k => st16 _ k) ?_
  show own_Go _ _ _ _ T16 (mkF m 40 #[.val (.long q_1), .second, .val (.int p_2), .val (.int p_3), .val (.int (p_3.toUInt32.toUInt16.toUInt32.toInt32)), .val (.ref b1), .unset, .unset, .unset] [])
  refine own_go (fun _ k => XS.aload X16.here hx rfl (hb hby at_40) rfl rfl k) ?_
  show own_Go _ _ _ _ T16 (mkF m 42 #[.val (.long q_1), .second, .val (.int p_2), .val (.int p_3), .val (.int (p_3.toUInt32.toUInt16.toUInt32.toInt32)), .val (.ref b1), .unset, .unset, .unset] [(.ref b1)])
  refine own_go (fun _ k => XS.iconst X16.here hx rfl (hb hby at_42) k) ?_
  show own_Go _ _ _ _ T16 (mkF m 43 #[.val (.long q_1), .second, .val (.int p_2), .val (.int p_3), .val (.int (p_3.toUInt32.toUInt16.toUInt32.toInt32)), .val (.ref b1), .unset, .unset, .unset] [(.int (5 : Int32)), (.ref b1)])
  refine own_go (fun _ k => XS.iload X16.here hx rfl (hb hby at_43) rfl k) ?_
  show own_Go _ _ _ _ T16 (mkF m 45 #[.val (.long q_1), .second, .val (.int p_2), .val (.int p_3), .val (.int (p_3.toUInt32.toUInt16.toUInt32.toInt32)), .val (.ref b1), .unset, .unset, .unset] [(.int (p_3.toUInt32.toUInt16.toUInt32.toInt32)), (.int (5 : Int32)), (.ref b1)])
  obtain ⟨q18, c18, R18, s18, t18⟩ := id V16
  have hin18 : ¬ ((5 : Int32) < 0 ∨ c18.slots.size ≤ ((5 : Int32)).toNatClampNeg) := inb_of s18 ⟨by decide, by decide⟩
  obtain ⟨T19, h19, X19, e19, W19, st19⟩ := stC X16 hx hZ e16 R18 (j := (5 : Int32)) hin18 (g := (mkF m 45 #[.val (.long q_1), .second, .val (.int p_2), .val (.int p_3), .val (.int (p_3.toUInt32.toUInt16.toUInt32.toInt32)), .val (.ref b1), .unset, .unset, .unset] [(.int (p_3.toUInt32.toUInt16.toUInt32.toInt32)), (.int (5 : Int32)), (.ref b1)])) rfl rfl (hb hby at_45)
  rw [hn4] at W19
  have V19 : own_AV Z h19 b1 .char (6 : Int32) (own_upd (own_upd (own_upd (own_upd (own_upd (own_upd (fun _ => (.int (0 : Int32))) 0 (.int (p_3.toUInt32.toUInt16.toUInt32.toInt32))) 1 (.int (p_3.toUInt32.toUInt16.toUInt32.toInt32))) 2 (.int (p_3.toUInt32.toUInt16.toUInt32.toInt32))) 3 (.int (p_3.toUInt32.toUInt16.toUInt32.toInt32))) 4 (.int (p_3.toUInt32.toUInt16.toUInt32.toInt32))) 5 (.int (p_3.toUInt32.toUInt16.toUInt32.toInt32))) := own_AV.set (k := 5) V16 W19 (by decide)
  have z20 := W19.size
  have N19 := Fr.snoc X19 N16 (by omega : n0 ≤ b1)
  refine own_go (fun _ k => st19 _ k) ?_
  show own_Go _ _ _ _ T19 (mkF m 46 #[.val (.long q_1), .second, .val (.int p_2), .val (.int p_3), .val (.int (p_3.toUInt32.toUInt16.toUInt32.toInt32)), .val (.ref b1), .unset, .unset, .unset] [])
  refine own_go (fun _ k => XS.iloadN X19.here hx rfl (hb hby at_46) rfl k) ?_
  show own_Go _ _ _ _ T19 (mkF m 47 #[.val (.long q_1), .second, .val (.int p_2), .val (.int p_3), .val (.int (p_3.toUInt32.toUInt16.toUInt32.toInt32)), .val (.ref b1), .unset, .unset, .unset] [(.int p_2)])
  refine own_go (fun _ k => X19.ldcInt hx hown (mvT hZ (hw _ (List.mem_of_getElem? (i := 1) rfl))) (g := (mkF m 47 #[.val (.long q_1), .second, .val (.int p_2), .val (.int p_3), .val (.int (p_3.toUInt32.toUInt16.toUInt32.toInt32)), .val (.ref b1), .unset, .unset, .unset] [(.int p_2)])) rfl (hb hby at_47) _ k) ?_
  show own_Go _ _ _ _ T19 (mkF m 49 #[.val (.long q_1), .second, .val (.int p_2), .val (.int p_3), .val (.int (p_3.toUInt32.toUInt16.toUInt32.toInt32)), .val (.ref b1), .unset, .unset, .unset] [(.int (2147483647 : Int32)), (.int p_2)])
  refine own_go (fun _ k => XS.iand X19.here hx rfl (hb hby at_49) rfl k) ?_
  show own_Go _ _ _ _ T19 (mkF m 50 #[.val (.long q_1), .second, .val (.int p_2), .val (.int p_3), .val (.int (p_3.toUInt32.toUInt16.toUInt32.toInt32)), .val (.ref b1), .unset, .unset, .unset] [(.int (p_2 &&& (2147483647 : Int32)))])
  refine own_go (fun _ k => XS.iconst X19.here hx rfl (hb hby at_50) k) ?_
  show own_Go _ _ _ _ T19 (mkF m 51 #[.val (.long q_1), .second, .val (.int p_2), .val (.int p_3), .val (.int (p_3.toUInt32.toUInt16.toUInt32.toInt32)), .val (.ref b1), .unset, .unset, .unset] [(.int (3 : Int32)), (.int (p_2 &&& (2147483647 : Int32)))])
  have nz21 : (3 : Int32) ≠ 0 := by decide
  refine own_go (fun _ k => iremM X19 hx rfl (hb hby at_51) rfl nz21 k) ?_
  show own_Go _ _ _ _ T19 (mkF m 52 #[.val (.long q_1), .second, .val (.int p_2), .val (.int p_3), .val (.int (p_3.toUInt32.toUInt16.toUInt32.toInt32)), .val (.ref b1), .unset, .unset, .unset] [(.int ((p_2 &&& (2147483647 : Int32)) % (3 : Int32)))])
  refine own_go (fun _ k => XS.istore X19.here hx rfl (hb hby at_52) rfl (l' := #[.val (.long q_1), .second, .val (.int p_2), .val (.int p_3), .val (.int (p_3.toUInt32.toUInt16.toUInt32.toInt32)), .val (.ref b1), .val (.int ((p_2 &&& (2147483647 : Int32)) % (3 : Int32))), .unset, .unset]) rfl k) ?_
  show own_Go _ _ _ _ T19 (mkF m 54 #[.val (.long q_1), .second, .val (.int p_2), .val (.int p_3), .val (.int (p_3.toUInt32.toUInt16.toUInt32.toInt32)), .val (.ref b1), .val (.int ((p_2 &&& (2147483647 : Int32)) % (3 : Int32))), .unset, .unset] [])
  generalize hdv22 : ((p_2 &&& (2147483647 : Int32)) % (3 : Int32)) = v22
  show own_Go _ _ _ _ T19 (mkF m 54 #[.val (.long q_1), .second, .val (.int p_2), .val (.int p_3), .val (.int (p_3.toUInt32.toUInt16.toUInt32.toInt32)), .val (.ref b1), .val (.int v22), .unset, .unset] [])
  have hs23 : v22 = (0 : Int32) ∨ v22 = (1 : Int32) ∨ v22 = (2 : Int32) := own_t0_1 p_2 v22 hdv22
  rcases hs23 with hs23 | hs23 | hs23
  · subst hs23
    show own_Go _ _ _ _ T19 (mkF m 54 #[.val (.long q_1), .second, .val (.int p_2), .val (.int p_3), .val (.int (p_3.toUInt32.toUInt16.toUInt32.toInt32)), .val (.ref b1), .val (.int (0 : Int32)), .unset, .unset] [])
    refine own_go (fun _ k => XS.lloadN X19.here hx rfl (hb hby at_54) rfl k) ?_
    show own_Go _ _ _ _ T19 (mkF m 55 #[.val (.long q_1), .second, .val (.int p_2), .val (.int p_3), .val (.int (p_3.toUInt32.toUInt16.toUInt32.toInt32)), .val (.ref b1), .val (.int (0 : Int32)), .unset, .unset] [(.long q_1)])
    refine own_go (fun _ k => XS.aload X19.here hx rfl (hb hby at_55) rfl rfl k) ?_
    show own_Go _ _ _ _ T19 (mkF m 57 #[.val (.long q_1), .second, .val (.int p_2), .val (.int p_3), .val (.int (p_3.toUInt32.toUInt16.toUInt32.toInt32)), .val (.ref b1), .val (.int (0 : Int32)), .unset, .unset] [(.ref b1), (.long q_1)])
    refine own_go (fun _ k => XS.iload X19.here hx rfl (hb hby at_57) rfl k) ?_
    show own_Go _ _ _ _ T19 (mkF m 59 #[.val (.long q_1), .second, .val (.int p_2), .val (.int p_3), .val (.int (p_3.toUInt32.toUInt16.toUInt32.toInt32)), .val (.ref b1), .val (.int (0 : Int32)), .unset, .unset] [(.int (0 : Int32)), (.ref b1), (.long q_1)])
    obtain ⟨_, _, ⟨T24, L24, k24, n24⟩, -, X24, ⟨Lc24, hQ24, l24, y24, z24⟩, st24⟩ := Jvm.LawKit.callS X19 hx (y := (⟨"com/example/honest_codec/honestcodec/Words", "putLanes", "(J[CI)V"⟩ : MethodName)) hown (mvT hZ (hw _ (List.mem_of_getElem? (i := 2) rfl))) (mvT hZ (hw _ (List.mem_of_getElem? (i := 3) rfl))) (mvT hZ (hw _ (List.mem_of_getElem? (i := 4) rfl))) (mvT hZ (hw _ (List.mem_of_getElem? (i := 5) rfl))) (by decide) (backOf (W := 0) (own_rm1_0 l Z a0 hw [] q_1 b1 (own_upd (own_upd (own_upd (own_upd (own_upd (own_upd (fun _ => (.int (0 : Int32))) 0 (.int (p_3.toUInt32.toUInt16.toUInt32.toInt32))) 1 (.int (p_3.toUInt32.toUInt16.toUInt32.toInt32))) 2 (.int (p_3.toUInt32.toUInt16.toUInt32.toInt32))) 3 (.int (p_3.toUInt32.toUInt16.toUInt32.toInt32))) 4 (.int (p_3.toUInt32.toUInt16.toUInt32.toInt32))) 5 (.int (p_3.toUInt32.toUInt16.toUInt32.toInt32))) h19 n0 (by omega) V19 (by omega)) hZ (hw _ (List.mem_of_getElem? (i := 5) rfl)) (hw _ (List.mem_of_getElem? (i := 4) rfl)) (by decide) (by decide)) (g := (mkF m 59 #[.val (.long q_1), .second, .val (.int p_2), .val (.int p_3), .val (.int (p_3.toUInt32.toUInt16.toUInt32.toInt32)), .val (.ref b1), .val (.int (0 : Int32)), .unset, .unset] [(.int (0 : Int32)), (.ref b1), (.long q_1)])) rfl (by rw [hml]; rfl) (argsL := [(.long q_1), (.ref b1), (.int (0 : Int32))]) (rest := []) (lenOf own_pd0 rfl) rfl (by show 2 * 0 + _ ≤ _; exact Nat.le_of_eq rfl) (hb hby at_59) (fun _ _ => ⟨rfl, e19, (by decide : 1 + 0 ≤ _), (by decide : 6 + 0 ≤ _)⟩)
    dsimp only [Pt.U, Pt.locs, Pt.cells, Pt.slots] at X24 l24 y24 z24 st24 hQ24
    have y24 : k24 = 1 := y24
    have z24 : n24 = 6 := z24
    obtain ⟨rfl, N24q, K24q, f25⟩ := hQ24
    have N24 : Fr n0 L24 := by rw [l24]; exact Fr.app N19 N24q
    have z26 := K24q.1
    have z27 := own_lt f25.lt
    refine own_go (fun _ k => st24 _ k) ?_
    show own_Go _ _ _ _ T24 (mkF m 62 #[.val (.long q_1), .second, .val (.int p_2), .val (.int p_3), .val (.int (p_3.toUInt32.toUInt16.toUInt32.toInt32)), .val (.ref b1), .val (.int (0 : Int32)), .unset, .unset] [])
    refine own_go (fun _ k => XS.aload X24.here hx rfl (hb hby at_62) rfl rfl k) ?_
    show own_Go _ _ _ _ T24 (mkF m 64 #[.val (.long q_1), .second, .val (.int p_2), .val (.int p_3), .val (.int (p_3.toUInt32.toUInt16.toUInt32.toInt32)), .val (.ref b1), .val (.int (0 : Int32)), .unset, .unset] [(.ref b1)])
    refine own_go (fun _ k => XS.iload X24.here hx rfl (hb hby at_64) rfl k) ?_
    show own_Go _ _ _ _ T24 (mkF m 66 #[.val (.long q_1), .second, .val (.int p_2), .val (.int p_3), .val (.int (p_3.toUInt32.toUInt16.toUInt32.toInt32)), .val (.ref b1), .val (.int (0 : Int32)), .unset, .unset] [(.int (0 : Int32)), (.ref b1)])
    obtain ⟨q28, c28, R28, s28, t28⟩ := id f25
    have hin28 : ¬ ((0 : Int32) < 0 ∨ c28.slots.size ≤ ((0 : Int32)).toNatClampNeg) := inb_of s28 ⟨by decide, by decide⟩
    have u28 : c28.slots[((0 : Int32)).toNatClampNeg]? = some (.int ((q_1.toInt32).toUInt32.toUInt16.toUInt32.toInt32)) := own_at (k := 0) t28 s28 hin28 (by decide) (rfl)
    refine own_go (fun _ k => X24.caload hx (j := (0 : Int32)) (v := (.int ((q_1.toInt32).toUInt32.toUInt16.toUInt32.toInt32))) R28.1 (State.isArrayOf_alike hZ.alike R28.2.1) R28.2.2 hin28 u28 (g := (mkF m 66 #[.val (.long q_1), .second, .val (.int p_2), .val (.int p_3), .val (.int (p_3.toUInt32.toUInt16.toUInt32.toInt32)), .val (.ref b1), .val (.int (0 : Int32)), .unset, .unset] [(.int (0 : Int32)), (.ref b1)])) rfl rfl (hb hby at_66) _ k) ?_
    show own_Go _ _ _ _ T24 (mkF m 67 #[.val (.long q_1), .second, .val (.int p_2), .val (.int p_3), .val (.int (p_3.toUInt32.toUInt16.toUInt32.toInt32)), .val (.ref b1), .val (.int (0 : Int32)), .unset, .unset] [(.int ((q_1.toInt32).toUInt32.toUInt16.toUInt32.toInt32))])
    refine own_go (fun _ k => XS.i2l X24.here hx rfl (hb hby at_67) rfl k) ?_
    show own_Go _ _ _ _ T24 (mkF m 68 #[.val (.long q_1), .second, .val (.int p_2), .val (.int p_3), .val (.int (p_3.toUInt32.toUInt16.toUInt32.toInt32)), .val (.ref b1), .val (.int (0 : Int32)), .unset, .unset] [(.long (((q_1.toInt32).toUInt32.toUInt16.toUInt32.toInt32).toInt64))])
    refine own_go (fun _ k => XS.aload X24.here hx rfl (hb hby at_68) rfl rfl k) ?_
    show own_Go _ _ _ _ T24 (mkF m 70 #[.val (.long q_1), .second, .val (.int p_2), .val (.int p_3), .val (.int (p_3.toUInt32.toUInt16.toUInt32.toInt32)), .val (.ref b1), .val (.int (0 : Int32)), .unset, .unset] [(.ref b1), (.long (((q_1.toInt32).toUInt32.toUInt16.toUInt32.toInt32).toInt64))])
    refine own_go (fun _ k => XS.iload X24.here hx rfl (hb hby at_70) rfl k) ?_
    show own_Go _ _ _ _ T24 (mkF m 72 #[.val (.long q_1), .second, .val (.int p_2), .val (.int p_3), .val (.int (p_3.toUInt32.toUInt16.toUInt32.toInt32)), .val (.ref b1), .val (.int (0 : Int32)), .unset, .unset] [(.int (0 : Int32)), (.ref b1), (.long (((q_1.toInt32).toUInt32.toUInt16.toUInt32.toInt32).toInt64))])
    refine own_go (fun _ k => XS.iconst X24.here hx rfl (hb hby at_72) k) ?_
    show own_Go _ _ _ _ T24 (mkF m 73 #[.val (.long q_1), .second, .val (.int p_2), .val (.int p_3), .val (.int (p_3.toUInt32.toUInt16.toUInt32.toInt32)), .val (.ref b1), .val (.int (0 : Int32)), .unset, .unset] [(.int (1 : Int32)), (.int (0 : Int32)), (.ref b1), (.long (((q_1.toInt32).toUInt32.toUInt16.toUInt32.toInt32).toInt64))])
    refine own_go (fun _ k => XS.iadd X24.here hx rfl (hb hby at_73) rfl k) ?_
    show own_Go _ _ _ _ T24 (mkF m 74 #[.val (.long q_1), .second, .val (.int p_2), .val (.int p_3), .val (.int (p_3.toUInt32.toUInt16.toUInt32.toInt32)), .val (.ref b1), .val (.int (0 : Int32)), .unset, .unset] [(.int (1 : Int32)), (.ref b1), (.long (((q_1.toInt32).toUInt32.toUInt16.toUInt32.toInt32).toInt64))])
    obtain ⟨q29, c29, R29, s29, t29⟩ := id f25
    have hin29 : ¬ ((1 : Int32) < 0 ∨ c29.slots.size ≤ ((1 : Int32)).toNatClampNeg) := inb_of s29 ⟨by decide, by decide⟩
    have u29 : c29.slots[((1 : Int32)).toNatClampNeg]? = some (.int ((((q_1.toUInt64 >>> ((16 : Int32) &&& 0x3f).toInt64.toUInt64).toInt64).toInt32).toUInt32.toUInt16.toUInt32.toInt32)) := own_at (k := 1) t29 s29 hin29 (by decide) (rfl)
    refine own_go (fun _ k => X24.caload hx (j := (1 : Int32)) (v := (.int ((((q_1.toUInt64 >>> ((16 : Int32) &&& 0x3f).toInt64.toUInt64).toInt64).toInt32).toUInt32.toUInt16.toUInt32.toInt32))) R29.1 (State.isArrayOf_alike hZ.alike R29.2.1) R29.2.2 hin29 u29 (g := (mkF m 74 #[.val (.long q_1), .second, .val (.int p_2), .val (.int p_3), .val (.int (p_3.toUInt32.toUInt16.toUInt32.toInt32)), .val (.ref b1), .val (.int (0 : Int32)), .unset, .unset] [(.int (1 : Int32)), (.ref b1), (.long (((q_1.toInt32).toUInt32.toUInt16.toUInt32.toInt32).toInt64))])) rfl rfl (hb hby at_74) _ k) ?_
    show own_Go _ _ _ _ T24 (mkF m 75 #[.val (.long q_1), .second, .val (.int p_2), .val (.int p_3), .val (.int (p_3.toUInt32.toUInt16.toUInt32.toInt32)), .val (.ref b1), .val (.int (0 : Int32)), .unset, .unset] [(.int ((((q_1.toUInt64 >>> ((16 : Int32) &&& 0x3f).toInt64.toUInt64).toInt64).toInt32).toUInt32.toUInt16.toUInt32.toInt32)), (.long (((q_1.toInt32).toUInt32.toUInt16.toUInt32.toInt32).toInt64))])
    refine own_go (fun _ k => XS.i2l X24.here hx rfl (hb hby at_75) rfl k) ?_
    show own_Go _ _ _ _ T24 (mkF m 76 #[.val (.long q_1), .second, .val (.int p_2), .val (.int p_3), .val (.int (p_3.toUInt32.toUInt16.toUInt32.toInt32)), .val (.ref b1), .val (.int (0 : Int32)), .unset, .unset] [(.long (((((q_1.toUInt64 >>> ((16 : Int32) &&& 0x3f).toInt64.toUInt64).toInt64).toInt32).toUInt32.toUInt16.toUInt32.toInt32).toInt64)), (.long (((q_1.toInt32).toUInt32.toUInt16.toUInt32.toInt32).toInt64))])
    refine own_go (fun _ k => XS.bipush X24.here hx rfl (hb hby at_76) k) ?_
    show own_Go _ _ _ _ T24 (mkF m 78 #[.val (.long q_1), .second, .val (.int p_2), .val (.int p_3), .val (.int (p_3.toUInt32.toUInt16.toUInt32.toInt32)), .val (.ref b1), .val (.int (0 : Int32)), .unset, .unset] [(.int (16 : Int32)), (.long (((((q_1.toUInt64 >>> ((16 : Int32) &&& 0x3f).toInt64.toUInt64).toInt64).toInt32).toUInt32.toUInt16.toUInt32.toInt32).toInt64)), (.long (((q_1.toInt32).toUInt32.toUInt16.toUInt32.toInt32).toInt64))])
    refine own_go (fun _ k => XS.lshl X24.here hx rfl (hb hby at_78) rfl k) ?_
    show own_Go _ _ _ _ T24 (mkF m 79 #[.val (.long q_1), .second, .val (.int p_2), .val (.int p_3), .val (.int (p_3.toUInt32.toUInt16.toUInt32.toInt32)), .val (.ref b1), .val (.int (0 : Int32)), .unset, .unset] [(.long ((((((q_1.toUInt64 >>> ((16 : Int32) &&& 0x3f).toInt64.toUInt64).toInt64).toInt32).toUInt32.toUInt16.toUInt32.toInt32).toInt64) <<< ((16 : Int32) &&& 0x3f).toInt64)), (.long (((q_1.toInt32).toUInt32.toUInt16.toUInt32.toInt32).toInt64))])
    refine own_go (fun _ k => XS.lor X24.here hx rfl (hb hby at_79) rfl k) ?_
    show own_Go _ _ _ _ T24 (mkF m 80 #[.val (.long q_1), .second, .val (.int p_2), .val (.int p_3), .val (.int (p_3.toUInt32.toUInt16.toUInt32.toInt32)), .val (.ref b1), .val (.int (0 : Int32)), .unset, .unset] [(.long ((((q_1.toInt32).toUInt32.toUInt16.toUInt32.toInt32).toInt64) ||| ((((((q_1.toUInt64 >>> ((16 : Int32) &&& 0x3f).toInt64.toUInt64).toInt64).toInt32).toUInt32.toUInt16.toUInt32.toInt32).toInt64) <<< ((16 : Int32) &&& 0x3f).toInt64)))])
    refine own_go (fun _ k => XS.aload X24.here hx rfl (hb hby at_80) rfl rfl k) ?_
    show own_Go _ _ _ _ T24 (mkF m 82 #[.val (.long q_1), .second, .val (.int p_2), .val (.int p_3), .val (.int (p_3.toUInt32.toUInt16.toUInt32.toInt32)), .val (.ref b1), .val (.int (0 : Int32)), .unset, .unset] [(.ref b1), (.long ((((q_1.toInt32).toUInt32.toUInt16.toUInt32.toInt32).toInt64) ||| ((((((q_1.toUInt64 >>> ((16 : Int32) &&& 0x3f).toInt64.toUInt64).toInt64).toInt32).toUInt32.toUInt16.toUInt32.toInt32).toInt64) <<< ((16 : Int32) &&& 0x3f).toInt64)))])
    refine own_go (fun _ k => XS.iload X24.here hx rfl (hb hby at_82) rfl k) ?_
    show own_Go _ _ _ _ T24 (mkF m 84 #[.val (.long q_1), .second, .val (.int p_2), .val (.int p_3), .val (.int (p_3.toUInt32.toUInt16.toUInt32.toInt32)), .val (.ref b1), .val (.int (0 : Int32)), .unset, .unset] [(.int (0 : Int32)), (.ref b1), (.long ((((q_1.toInt32).toUInt32.toUInt16.toUInt32.toInt32).toInt64) ||| ((((((q_1.toUInt64 >>> ((16 : Int32) &&& 0x3f).toInt64.toUInt64).toInt64).toInt32).toUInt32.toUInt16.toUInt32.toInt32).toInt64) <<< ((16 : Int32) &&& 0x3f).toInt64)))])
    refine own_go (fun _ k => XS.iconst X24.here hx rfl (hb hby at_84) k) ?_
    show own_Go _ _ _ _ T24 (mkF m 85 #[.val (.long q_1), .second, .val (.int p_2), .val (.int p_3), .val (.int (p_3.toUInt32.toUInt16.toUInt32.toInt32)), .val (.ref b1), .val (.int (0 : Int32)), .unset, .unset] [(.int (2 : Int32)), (.int (0 : Int32)), (.ref b1), (.long ((((q_1.toInt32).toUInt32.toUInt16.toUInt32.toInt32).toInt64) ||| ((((((q_1.toUInt64 >>> ((16 : Int32) &&& 0x3f).toInt64.toUInt64).toInt64).toInt32).toUInt32.toUInt16.toUInt32.toInt32).toInt64) <<< ((16 : Int32) &&& 0x3f).toInt64)))])
    refine own_go (fun _ k => XS.iadd X24.here hx rfl (hb hby at_85) rfl k) ?_
    show own_Go _ _ _ _ T24 (mkF m 86 #[.val (.long q_1), .second, .val (.int p_2), .val (.int p_3), .val (.int (p_3.toUInt32.toUInt16.toUInt32.toInt32)), .val (.ref b1), .val (.int (0 : Int32)), .unset, .unset] [(.int (2 : Int32)), (.ref b1), (.long ((((q_1.toInt32).toUInt32.toUInt16.toUInt32.toInt32).toInt64) ||| ((((((q_1.toUInt64 >>> ((16 : Int32) &&& 0x3f).toInt64.toUInt64).toInt64).toInt32).toUInt32.toUInt16.toUInt32.toInt32).toInt64) <<< ((16 : Int32) &&& 0x3f).toInt64)))])
    obtain ⟨q30, c30, R30, s30, t30⟩ := id f25
    have hin30 : ¬ ((2 : Int32) < 0 ∨ c30.slots.size ≤ ((2 : Int32)).toNatClampNeg) := inb_of s30 ⟨by decide, by decide⟩
    have u30 : c30.slots[((2 : Int32)).toNatClampNeg]? = some (.int ((((q_1.toUInt64 >>> ((32 : Int32) &&& 0x3f).toInt64.toUInt64).toInt64).toInt32).toUInt32.toUInt16.toUInt32.toInt32)) := own_at (k := 2) t30 s30 hin30 (by decide) (rfl)
    refine own_go (fun _ k => X24.caload hx (j := (2 : Int32)) (v := (.int ((((q_1.toUInt64 >>> ((32 : Int32) &&& 0x3f).toInt64.toUInt64).toInt64).toInt32).toUInt32.toUInt16.toUInt32.toInt32))) R30.1 (State.isArrayOf_alike hZ.alike R30.2.1) R30.2.2 hin30 u30 (g := (mkF m 86 #[.val (.long q_1), .second, .val (.int p_2), .val (.int p_3), .val (.int (p_3.toUInt32.toUInt16.toUInt32.toInt32)), .val (.ref b1), .val (.int (0 : Int32)), .unset, .unset] [(.int (2 : Int32)), (.ref b1), (.long ((((q_1.toInt32).toUInt32.toUInt16.toUInt32.toInt32).toInt64) ||| ((((((q_1.toUInt64 >>> ((16 : Int32) &&& 0x3f).toInt64.toUInt64).toInt64).toInt32).toUInt32.toUInt16.toUInt32.toInt32).toInt64) <<< ((16 : Int32) &&& 0x3f).toInt64)))])) rfl rfl (hb hby at_86) _ k) ?_
    show own_Go _ _ _ _ T24 (mkF m 87 #[.val (.long q_1), .second, .val (.int p_2), .val (.int p_3), .val (.int (p_3.toUInt32.toUInt16.toUInt32.toInt32)), .val (.ref b1), .val (.int (0 : Int32)), .unset, .unset] [(.int ((((q_1.toUInt64 >>> ((32 : Int32) &&& 0x3f).toInt64.toUInt64).toInt64).toInt32).toUInt32.toUInt16.toUInt32.toInt32)), (.long ((((q_1.toInt32).toUInt32.toUInt16.toUInt32.toInt32).toInt64) ||| ((((((q_1.toUInt64 >>> ((16 : Int32) &&& 0x3f).toInt64.toUInt64).toInt64).toInt32).toUInt32.toUInt16.toUInt32.toInt32).toInt64) <<< ((16 : Int32) &&& 0x3f).toInt64)))])
    refine own_go (fun _ k => XS.i2l X24.here hx rfl (hb hby at_87) rfl k) ?_
    show own_Go _ _ _ _ T24 (mkF m 88 #[.val (.long q_1), .second, .val (.int p_2), .val (.int p_3), .val (.int (p_3.toUInt32.toUInt16.toUInt32.toInt32)), .val (.ref b1), .val (.int (0 : Int32)), .unset, .unset] [(.long (((((q_1.toUInt64 >>> ((32 : Int32) &&& 0x3f).toInt64.toUInt64).toInt64).toInt32).toUInt32.toUInt16.toUInt32.toInt32).toInt64)), (.long ((((q_1.toInt32).toUInt32.toUInt16.toUInt32.toInt32).toInt64) ||| ((((((q_1.toUInt64 >>> ((16 : Int32) &&& 0x3f).toInt64.toUInt64).toInt64).toInt32).toUInt32.toUInt16.toUInt32.toInt32).toInt64) <<< ((16 : Int32) &&& 0x3f).toInt64)))])
    refine own_go (fun _ k => XS.bipush X24.here hx rfl (hb hby at_88) k) ?_
    show own_Go _ _ _ _ T24 (mkF m 90 #[.val (.long q_1), .second, .val (.int p_2), .val (.int p_3), .val (.int (p_3.toUInt32.toUInt16.toUInt32.toInt32)), .val (.ref b1), .val (.int (0 : Int32)), .unset, .unset] [(.int (32 : Int32)), (.long (((((q_1.toUInt64 >>> ((32 : Int32) &&& 0x3f).toInt64.toUInt64).toInt64).toInt32).toUInt32.toUInt16.toUInt32.toInt32).toInt64)), (.long ((((q_1.toInt32).toUInt32.toUInt16.toUInt32.toInt32).toInt64) ||| ((((((q_1.toUInt64 >>> ((16 : Int32) &&& 0x3f).toInt64.toUInt64).toInt64).toInt32).toUInt32.toUInt16.toUInt32.toInt32).toInt64) <<< ((16 : Int32) &&& 0x3f).toInt64)))])
    refine own_go (fun _ k => XS.lshl X24.here hx rfl (hb hby at_90) rfl k) ?_
    show own_Go _ _ _ _ T24 (mkF m 91 #[.val (.long q_1), .second, .val (.int p_2), .val (.int p_3), .val (.int (p_3.toUInt32.toUInt16.toUInt32.toInt32)), .val (.ref b1), .val (.int (0 : Int32)), .unset, .unset] [(.long ((((((q_1.toUInt64 >>> ((32 : Int32) &&& 0x3f).toInt64.toUInt64).toInt64).toInt32).toUInt32.toUInt16.toUInt32.toInt32).toInt64) <<< ((32 : Int32) &&& 0x3f).toInt64)), (.long ((((q_1.toInt32).toUInt32.toUInt16.toUInt32.toInt32).toInt64) ||| ((((((q_1.toUInt64 >>> ((16 : Int32) &&& 0x3f).toInt64.toUInt64).toInt64).toInt32).toUInt32.toUInt16.toUInt32.toInt32).toInt64) <<< ((16 : Int32) &&& 0x3f).toInt64)))])
    refine own_go (fun _ k => XS.lor X24.here hx rfl (hb hby at_91) rfl k) ?_
    show own_Go _ _ _ _ T24 (mkF m 92 #[.val (.long q_1), .second, .val (.int p_2), .val (.int p_3), .val (.int (p_3.toUInt32.toUInt16.toUInt32.toInt32)), .val (.ref b1), .val (.int (0 : Int32)), .unset, .unset] [(.long (((((q_1.toInt32).toUInt32.toUInt16.toUInt32.toInt32).toInt64) ||| ((((((q_1.toUInt64 >>> ((16 : Int32) &&& 0x3f).toInt64.toUInt64).toInt64).toInt32).toUInt32.toUInt16.toUInt32.toInt32).toInt64) <<< ((16 : Int32) &&& 0x3f).toInt64)) ||| ((((((q_1.toUInt64 >>> ((32 : Int32) &&& 0x3f).toInt64.toUInt64).toInt64).toInt32).toUInt32.toUInt16.toUInt32.toInt32).toInt64) <<< ((32 : Int32) &&& 0x3f).toInt64)))])
    refine own_go (fun _ k => XS.aload X24.here hx rfl (hb hby at_92) rfl rfl k) ?_
    show own_Go _ _ _ _ T24 (mkF m 94 #[.val (.long q_1), .second, .val (.int p_2), .val (.int p_3), .val (.int (p_3.toUInt32.toUInt16.toUInt32.toInt32)), .val (.ref b1), .val (.int (0 : Int32)), .unset, .unset] [(.ref b1), (.long (((((q_1.toInt32).toUInt32.toUInt16.toUInt32.toInt32).toInt64) ||| ((((((q_1.toUInt64 >>> ((16 : Int32) &&& 0x3f).toInt64.toUInt64).toInt64).toInt32).toUInt32.toUInt16.toUInt32.toInt32).toInt64) <<< ((16 : Int32) &&& 0x3f).toInt64)) ||| ((((((q_1.toUInt64 >>> ((32 : Int32) &&& 0x3f).toInt64.toUInt64).toInt64).toInt32).toUInt32.toUInt16.toUInt32.toInt32).toInt64) <<< ((32 : Int32) &&& 0x3f).toInt64)))])
    refine own_go (fun _ k => XS.iload X24.here hx rfl (hb hby at_94) rfl k) ?_
    show own_Go _ _ _ _ T24 (mkF m 96 #[.val (.long q_1), .second, .val (.int p_2), .val (.int p_3), .val (.int (p_3.toUInt32.toUInt16.toUInt32.toInt32)), .val (.ref b1), .val (.int (0 : Int32)), .unset, .unset] [(.int (0 : Int32)), (.ref b1), (.long (((((q_1.toInt32).toUInt32.toUInt16.toUInt32.toInt32).toInt64) ||| ((((((q_1.toUInt64 >>> ((16 : Int32) &&& 0x3f).toInt64.toUInt64).toInt64).toInt32).toUInt32.toUInt16.toUInt32.toInt32).toInt64) <<< ((16 : Int32) &&& 0x3f).toInt64)) ||| ((((((q_1.toUInt64 >>> ((32 : Int32) &&& 0x3f).toInt64.toUInt64).toInt64).toInt32).toUInt32.toUInt16.toUInt32.toInt32).toInt64) <<< ((32 : Int32) &&& 0x3f).toInt64)))])
    refine own_go (fun _ k => XS.iconst X24.here hx rfl (hb hby at_96) k) ?_
    show own_Go _ _ _ _ T24 (mkF m 97 #[.val (.long q_1), .second, .val (.int p_2), .val (.int p_3), .val (.int (p_3.toUInt32.toUInt16.toUInt32.toInt32)), .val (.ref b1), .val (.int (0 : Int32)), .unset, .unset] [(.int (3 : Int32)), (.int (0 : Int32)), (.ref b1), (.long (((((q_1.toInt32).toUInt32.toUInt16.toUInt32.toInt32).toInt64) ||| ((((((q_1.toUInt64 >>> ((16 : Int32) &&& 0x3f).toInt64.toUInt64).toInt64).toInt32).toUInt32.toUInt16.toUInt32.toInt32).toInt64) <<< ((16 : Int32) &&& 0x3f).toInt64)) ||| ((((((q_1.toUInt64 >>> ((32 : Int32) &&& 0x3f).toInt64.toUInt64).toInt64).toInt32).toUInt32.toUInt16.toUInt32.toInt32).toInt64) <<< ((32 : Int32) &&& 0x3f).toInt64)))])
    refine own_go (fun _ k => XS.iadd X24.here hx rfl (hb hby at_97) rfl k) ?_
    show own_Go _ _ _ _ T24 (mkF m 98 #[.val (.long q_1), .second, .val (.int p_2), .val (.int p_3), .val (.int (p_3.toUInt32.toUInt16.toUInt32.toInt32)), .val (.ref b1), .val (.int (0 : Int32)), .unset, .unset] [(.int (3 : Int32)), (.ref b1), (.long (((((q_1.toInt32).toUInt32.toUInt16.toUInt32.toInt32).toInt64) ||| ((((((q_1.toUInt64 >>> ((16 : Int32) &&& 0x3f).toInt64.toUInt64).toInt64).toInt32).toUInt32.toUInt16.toUInt32.toInt32).toInt64) <<< ((16 : Int32) &&& 0x3f).toInt64)) ||| ((((((q_1.toUInt64 >>> ((32 : Int32) &&& 0x3f).toInt64.toUInt64).toInt64).toInt32).toUInt32.toUInt16.toUInt32.toInt32).toInt64) <<< ((32 : Int32) &&& 0x3f).toInt64)))])
    obtain ⟨q31, c31, R31, s31, t31⟩ := id f25
    have hin31 : ¬ ((3 : Int32) < 0 ∨ c31.slots.size ≤ ((3 : Int32)).toNatClampNeg) := inb_of s31 ⟨by decide, by decide⟩
    have u31 : c31.slots[((3 : Int32)).toNatClampNeg]? = some (.int ((((q_1.toUInt64 >>> ((48 : Int32) &&& 0x3f).toInt64.toUInt64).toInt64).toInt32).toUInt32.toUInt16.toUInt32.toInt32)) := own_at (k := 3) t31 s31 hin31 (by decide) (rfl)
    refine own_go (fun _ k => X24.caload hx (j := (3 : Int32)) (v := (.int ((((q_1.toUInt64 >>> ((48 : Int32) &&& 0x3f).toInt64.toUInt64).toInt64).toInt32).toUInt32.toUInt16.toUInt32.toInt32))) R31.1 (State.isArrayOf_alike hZ.alike R31.2.1) R31.2.2 hin31 u31 (g := (mkF m 98 #[.val (.long q_1), .second, .val (.int p_2), .val (.int p_3), .val (.int (p_3.toUInt32.toUInt16.toUInt32.toInt32)), .val (.ref b1), .val (.int (0 : Int32)), .unset, .unset] [(.int (3 : Int32)), (.ref b1), (.long (((((q_1.toInt32).toUInt32.toUInt16.toUInt32.toInt32).toInt64) ||| ((((((q_1.toUInt64 >>> ((16 : Int32) &&& 0x3f).toInt64.toUInt64).toInt64).toInt32).toUInt32.toUInt16.toUInt32.toInt32).toInt64) <<< ((16 : Int32) &&& 0x3f).toInt64)) ||| ((((((q_1.toUInt64 >>> ((32 : Int32) &&& 0x3f).toInt64.toUInt64).toInt64).toInt32).toUInt32.toUInt16.toUInt32.toInt32).toInt64) <<< ((32 : Int32) &&& 0x3f).toInt64)))])) rfl rfl (hb hby at_98) _ k) ?_
    show own_Go _ _ _ _ T24 (mkF m 99 #[.val (.long q_1), .second, .val (.int p_2), .val (.int p_3), .val (.int (p_3.toUInt32.toUInt16.toUInt32.toInt32)), .val (.ref b1), .val (.int (0 : Int32)), .unset, .unset] [(.int ((((q_1.toUInt64 >>> ((48 : Int32) &&& 0x3f).toInt64.toUInt64).toInt64).toInt32).toUInt32.toUInt16.toUInt32.toInt32)), (.long (((((q_1.toInt32).toUInt32.toUInt16.toUInt32.toInt32).toInt64) ||| ((((((q_1.toUInt64 >>> ((16 : Int32) &&& 0x3f).toInt64.toUInt64).toInt64).toInt32).toUInt32.toUInt16.toUInt32.toInt32).toInt64) <<< ((16 : Int32) &&& 0x3f).toInt64)) ||| ((((((q_1.toUInt64 >>> ((32 : Int32) &&& 0x3f).toInt64.toUInt64).toInt64).toInt32).toUInt32.toUInt16.toUInt32.toInt32).toInt64) <<< ((32 : Int32) &&& 0x3f).toInt64)))])
    refine own_go (fun _ k => XS.i2l X24.here hx rfl (hb hby at_99) rfl k) ?_
    show own_Go _ _ _ _ T24 (mkF m 100 #[.val (.long q_1), .second, .val (.int p_2), .val (.int p_3), .val (.int (p_3.toUInt32.toUInt16.toUInt32.toInt32)), .val (.ref b1), .val (.int (0 : Int32)), .unset, .unset] [(.long (((((q_1.toUInt64 >>> ((48 : Int32) &&& 0x3f).toInt64.toUInt64).toInt64).toInt32).toUInt32.toUInt16.toUInt32.toInt32).toInt64)), (.long (((((q_1.toInt32).toUInt32.toUInt16.toUInt32.toInt32).toInt64) ||| ((((((q_1.toUInt64 >>> ((16 : Int32) &&& 0x3f).toInt64.toUInt64).toInt64).toInt32).toUInt32.toUInt16.toUInt32.toInt32).toInt64) <<< ((16 : Int32) &&& 0x3f).toInt64)) ||| ((((((q_1.toUInt64 >>> ((32 : Int32) &&& 0x3f).toInt64.toUInt64).toInt64).toInt32).toUInt32.toUInt16.toUInt32.toInt32).toInt64) <<< ((32 : Int32) &&& 0x3f).toInt64)))])
    refine own_go (fun _ k => XS.bipush X24.here hx rfl (hb hby at_100) k) ?_
    show own_Go _ _ _ _ T24 (mkF m 102 #[.val (.long q_1), .second, .val (.int p_2), .val (.int p_3), .val (.int (p_3.toUInt32.toUInt16.toUInt32.toInt32)), .val (.ref b1), .val (.int (0 : Int32)), .unset, .unset] [(.int (48 : Int32)), (.long (((((q_1.toUInt64 >>> ((48 : Int32) &&& 0x3f).toInt64.toUInt64).toInt64).toInt32).toUInt32.toUInt16.toUInt32.toInt32).toInt64)), (.long (((((q_1.toInt32).toUInt32.toUInt16.toUInt32.toInt32).toInt64) ||| ((((((q_1.toUInt64 >>> ((16 : Int32) &&& 0x3f).toInt64.toUInt64).toInt64).toInt32).toUInt32.toUInt16.toUInt32.toInt32).toInt64) <<< ((16 : Int32) &&& 0x3f).toInt64)) ||| ((((((q_1.toUInt64 >>> ((32 : Int32) &&& 0x3f).toInt64.toUInt64).toInt64).toInt32).toUInt32.toUInt16.toUInt32.toInt32).toInt64) <<< ((32 : Int32) &&& 0x3f).toInt64)))])
    refine own_go (fun _ k => XS.lshl X24.here hx rfl (hb hby at_102) rfl k) ?_
    show own_Go _ _ _ _ T24 (mkF m 103 #[.val (.long q_1), .second, .val (.int p_2), .val (.int p_3), .val (.int (p_3.toUInt32.toUInt16.toUInt32.toInt32)), .val (.ref b1), .val (.int (0 : Int32)), .unset, .unset] [(.long ((((((q_1.toUInt64 >>> ((48 : Int32) &&& 0x3f).toInt64.toUInt64).toInt64).toInt32).toUInt32.toUInt16.toUInt32.toInt32).toInt64) <<< ((48 : Int32) &&& 0x3f).toInt64)), (.long (((((q_1.toInt32).toUInt32.toUInt16.toUInt32.toInt32).toInt64) ||| ((((((q_1.toUInt64 >>> ((16 : Int32) &&& 0x3f).toInt64.toUInt64).toInt64).toInt32).toUInt32.toUInt16.toUInt32.toInt32).toInt64) <<< ((16 : Int32) &&& 0x3f).toInt64)) ||| ((((((q_1.toUInt64 >>> ((32 : Int32) &&& 0x3f).toInt64.toUInt64).toInt64).toInt32).toUInt32.toUInt16.toUInt32.toInt32).toInt64) <<< ((32 : Int32) &&& 0x3f).toInt64)))])
    refine own_go (fun _ k => XS.lor X24.here hx rfl (hb hby at_103) rfl k) ?_
    show own_Go _ _ _ _ T24 (mkF m 104 #[.val (.long q_1), .second, .val (.int p_2), .val (.int p_3), .val (.int (p_3.toUInt32.toUInt16.toUInt32.toInt32)), .val (.ref b1), .val (.int (0 : Int32)), .unset, .unset] [(.long ((((((q_1.toInt32).toUInt32.toUInt16.toUInt32.toInt32).toInt64) ||| ((((((q_1.toUInt64 >>> ((16 : Int32) &&& 0x3f).toInt64.toUInt64).toInt64).toInt32).toUInt32.toUInt16.toUInt32.toInt32).toInt64) <<< ((16 : Int32) &&& 0x3f).toInt64)) ||| ((((((q_1.toUInt64 >>> ((32 : Int32) &&& 0x3f).toInt64.toUInt64).toInt64).toInt32).toUInt32.toUInt16.toUInt32.toInt32).toInt64) <<< ((32 : Int32) &&& 0x3f).toInt64)) ||| ((((((q_1.toUInt64 >>> ((48 : Int32) &&& 0x3f).toInt64.toUInt64).toInt64).toInt32).toUInt32.toUInt16.toUInt32.toInt32).toInt64) <<< ((48 : Int32) &&& 0x3f).toInt64)))])
    refine own_go (fun _ k => XS.lstore X24.here hx rfl (hb hby at_104) rfl (l' := #[.val (.long q_1), .second, .val (.int p_2), .val (.int p_3), .val (.int (p_3.toUInt32.toUInt16.toUInt32.toInt32)), .val (.ref b1), .val (.int (0 : Int32)), .val (.long ((((((q_1.toInt32).toUInt32.toUInt16.toUInt32.toInt32).toInt64) ||| ((((((q_1.toUInt64 >>> ((16 : Int32) &&& 0x3f).toInt64.toUInt64).toInt64).toInt32).toUInt32.toUInt16.toUInt32.toInt32).toInt64) <<< ((16 : Int32) &&& 0x3f).toInt64)) ||| ((((((q_1.toUInt64 >>> ((32 : Int32) &&& 0x3f).toInt64.toUInt64).toInt64).toInt32).toUInt32.toUInt16.toUInt32.toInt32).toInt64) <<< ((32 : Int32) &&& 0x3f).toInt64)) ||| ((((((q_1.toUInt64 >>> ((48 : Int32) &&& 0x3f).toInt64.toUInt64).toInt64).toInt32).toUInt32.toUInt16.toUInt32.toInt32).toInt64) <<< ((48 : Int32) &&& 0x3f).toInt64))), .second]) rfl k) ?_
    show own_Go _ _ _ _ T24 (mkF m 106 #[.val (.long q_1), .second, .val (.int p_2), .val (.int p_3), .val (.int (p_3.toUInt32.toUInt16.toUInt32.toInt32)), .val (.ref b1), .val (.int (0 : Int32)), .val (.long ((((((q_1.toInt32).toUInt32.toUInt16.toUInt32.toInt32).toInt64) ||| ((((((q_1.toUInt64 >>> ((16 : Int32) &&& 0x3f).toInt64.toUInt64).toInt64).toInt32).toUInt32.toUInt16.toUInt32.toInt32).toInt64) <<< ((16 : Int32) &&& 0x3f).toInt64)) ||| ((((((q_1.toUInt64 >>> ((32 : Int32) &&& 0x3f).toInt64.toUInt64).toInt64).toInt32).toUInt32.toUInt16.toUInt32.toInt32).toInt64) <<< ((32 : Int32) &&& 0x3f).toInt64)) ||| ((((((q_1.toUInt64 >>> ((48 : Int32) &&& 0x3f).toInt64.toUInt64).toInt64).toInt32).toUInt32.toUInt16.toUInt32.toInt32).toInt64) <<< ((48 : Int32) &&& 0x3f).toInt64))), .second] [])
    generalize hdv32 : ((((((q_1.toInt32).toUInt32.toUInt16.toUInt32.toInt32).toInt64) ||| ((((((q_1.toUInt64 >>> ((16 : Int32) &&& 0x3f).toInt64.toUInt64).toInt64).toInt32).toUInt32.toUInt16.toUInt32.toInt32).toInt64) <<< ((16 : Int32) &&& 0x3f).toInt64)) ||| ((((((q_1.toUInt64 >>> ((32 : Int32) &&& 0x3f).toInt64.toUInt64).toInt64).toInt32).toUInt32.toUInt16.toUInt32.toInt32).toInt64) <<< ((32 : Int32) &&& 0x3f).toInt64)) ||| ((((((q_1.toUInt64 >>> ((48 : Int32) &&& 0x3f).toInt64.toUInt64).toInt64).toInt32).toUInt32.toUInt16.toUInt32.toInt32).toInt64) <<< ((48 : Int32) &&& 0x3f).toInt64)) = v32
    show own_Go _ _ _ _ T24 (mkF m 106 #[.val (.long q_1), .second, .val (.int p_2), .val (.int p_3), .val (.int (p_3.toUInt32.toUInt16.toUInt32.toInt32)), .val (.ref b1), .val (.int (0 : Int32)), .val (.long v32), .second] [])
    refine own_go (fun _ k => XS.lload X24.here hx rfl (hb hby at_106) rfl k) ?_
    show own_Go _ _ _ _ T24 (mkF m 108 #[.val (.long q_1), .second, .val (.int p_2), .val (.int p_3), .val (.int (p_3.toUInt32.toUInt16.toUInt32.toInt32)), .val (.ref b1), .val (.int (0 : Int32)), .val (.long v32), .second] [(.long v32)])
    refine own_go (fun _ k => XS.lloadN X24.here hx rfl (hb hby at_108) rfl k) ?_
    show own_Go _ _ _ _ T24 (mkF m 109 #[.val (.long q_1), .second, .val (.int p_2), .val (.int p_3), .val (.int (p_3.toUInt32.toUInt16.toUInt32.toInt32)), .val (.ref b1), .val (.int (0 : Int32)), .val (.long v32), .second] [(.long q_1), (.long v32)])
    refine own_go (fun _ k => XS.lcmp X24.here hx rfl (hb hby at_109) rfl k) ?_
    show own_Go _ _ _ _ T24 (mkF m 110 #[.val (.long q_1), .second, .val (.int p_2), .val (.int p_3), .val (.int (p_3.toUInt32.toUInt16.toUInt32.toInt32)), .val (.ref b1), .val (.int (0 : Int32)), .val (.long v32), .second] [(.int (lcmpW v32 q_1))])
    have hc33 : v32 = q_1 := own_t0_2 q_1 v32 hdv32
    refine own_go (fun _ k => XS.ifYes X24.here hx rfl (pc0 := 110) (pc' := 115) rfl (hb hby at_110) rfl (Jvm.Free.XT.ll_eq_t hc33) (by decide) (by decide) k) ?_
    show own_Go _ _ _ _ T24 (mkF m 115 #[.val (.long q_1), .second, .val (.int p_2), .val (.int p_3), .val (.int (p_3.toUInt32.toUInt16.toUInt32.toInt32)), .val (.ref b1), .val (.int (0 : Int32)), .val (.long v32), .second] [])
    refine own_go (fun _ k => XS.iload X24.here hx rfl (hb hby at_115) rfl k) ?_
    show own_Go _ _ _ _ T24 (mkF m 117 #[.val (.long q_1), .second, .val (.int p_2), .val (.int p_3), .val (.int (p_3.toUInt32.toUInt16.toUInt32.toInt32)), .val (.ref b1), .val (.int (0 : Int32)), .val (.long v32), .second] [(.int (0 : Int32))])
    have hc34 : ¬ (0 < (0 : Int32)) := by decide
    refine own_go (fun _ k => XS.ifYes X24.here hx rfl (pc0 := 117) (pc' := 131) rfl (hb hby at_117) rfl (Jvm.Free.XT.i0_le_t hc34) (by decide) (by decide) k) ?_
    show own_Go _ _ _ _ T24 (mkF m 131 #[.val (.long q_1), .second, .val (.int p_2), .val (.int p_3), .val (.int (p_3.toUInt32.toUInt16.toUInt32.toInt32)), .val (.ref b1), .val (.int (0 : Int32)), .val (.long v32), .second] [])
    refine own_go (fun _ k => XS.iload X24.here hx rfl (hb hby at_131) rfl k) ?_
    show own_Go _ _ _ _ T24 (mkF m 133 #[.val (.long q_1), .second, .val (.int p_2), .val (.int p_3), .val (.int (p_3.toUInt32.toUInt16.toUInt32.toInt32)), .val (.ref b1), .val (.int (0 : Int32)), .val (.long v32), .second] [(.int (0 : Int32))])
    refine own_go (fun _ k => XS.iconst X24.here hx rfl (hb hby at_133) k) ?_
    show own_Go _ _ _ _ T24 (mkF m 134 #[.val (.long q_1), .second, .val (.int p_2), .val (.int p_3), .val (.int (p_3.toUInt32.toUInt16.toUInt32.toInt32)), .val (.ref b1), .val (.int (0 : Int32)), .val (.long v32), .second] [(.int (1 : Int32)), (.int (0 : Int32))])
    have hc35 : ¬ ((1 : Int32) < (0 : Int32)) := by decide
    refine own_go (fun _ k => XS.icmpYes X24.here hx rfl (pc0 := 134) (pc' := 148) rfl (hb hby at_134) rfl (Jvm.Free.XT.ii_le_t hc35) (by decide) (by decide) k) ?_
    show own_Go _ _ _ _ T24 (mkF m 148 #[.val (.long q_1), .second, .val (.int p_2), .val (.int p_3), .val (.int (p_3.toUInt32.toUInt16.toUInt32.toInt32)), .val (.ref b1), .val (.int (0 : Int32)), .val (.long v32), .second] [])
    refine own_go (fun _ k => XS.iload X24.here hx rfl (hb hby at_148) rfl k) ?_
    show own_Go _ _ _ _ T24 (mkF m 150 #[.val (.long q_1), .second, .val (.int p_2), .val (.int p_3), .val (.int (p_3.toUInt32.toUInt16.toUInt32.toInt32)), .val (.ref b1), .val (.int (0 : Int32)), .val (.long v32), .second] [(.int (0 : Int32))])
    have hc36 : (0 : Int32) = 0 := by decide
    refine own_go (fun _ k => XS.ifNo X24.here hx rfl (hb hby at_150) rfl (Jvm.Free.XT.i0_ne_f hc36) k) ?_
    show own_Go _ _ _ _ T24 (mkF m 153 #[.val (.long q_1), .second, .val (.int p_2), .val (.int p_3), .val (.int (p_3.toUInt32.toUInt16.toUInt32.toInt32)), .val (.ref b1), .val (.int (0 : Int32)), .val (.long v32), .second] [])
    refine own_go (fun _ k => XS.aload X24.here hx rfl (hb hby at_153) rfl rfl k) ?_
    show own_Go _ _ _ _ T24 (mkF m 155 #[.val (.long q_1), .second, .val (.int p_2), .val (.int p_3), .val (.int (p_3.toUInt32.toUInt16.toUInt32.toInt32)), .val (.ref b1), .val (.int (0 : Int32)), .val (.long v32), .second] [(.ref b1)])
    refine own_go (fun _ k => XS.iconst X24.here hx rfl (hb hby at_155) k) ?_
    show own_Go _ _ _ _ T24 (mkF m 156 #[.val (.long q_1), .second, .val (.int p_2), .val (.int p_3), .val (.int (p_3.toUInt32.toUInt16.toUInt32.toInt32)), .val (.ref b1), .val (.int (0 : Int32)), .val (.long v32), .second] [(.int (4 : Int32)), (.ref b1)])
    obtain ⟨q37, c37, R37, s37, t37⟩ := id f25
    have hin37 : ¬ ((4 : Int32) < 0 ∨ c37.slots.size ≤ ((4 : Int32)).toNatClampNeg) := inb_of s37 ⟨by decide, by decide⟩
    have u37 : c37.slots[((4 : Int32)).toNatClampNeg]? = some (.int (p_3.toUInt32.toUInt16.toUInt32.toInt32)) := own_at (k := 4) t37 s37 hin37 (by decide) (rfl)
    refine own_go (fun _ k => X24.caload hx (j := (4 : Int32)) (v := (.int (p_3.toUInt32.toUInt16.toUInt32.toInt32))) R37.1 (State.isArrayOf_alike hZ.alike R37.2.1) R37.2.2 hin37 u37 (g := (mkF m 156 #[.val (.long q_1), .second, .val (.int p_2), .val (.int p_3), .val (.int (p_3.toUInt32.toUInt16.toUInt32.toInt32)), .val (.ref b1), .val (.int (0 : Int32)), .val (.long v32), .second] [(.int (4 : Int32)), (.ref b1)])) rfl rfl (hb hby at_156) _ k) ?_
    show own_Go _ _ _ _ T24 (mkF m 157 #[.val (.long q_1), .second, .val (.int p_2), .val (.int p_3), .val (.int (p_3.toUInt32.toUInt16.toUInt32.toInt32)), .val (.ref b1), .val (.int (0 : Int32)), .val (.long v32), .second] [(.int (p_3.toUInt32.toUInt16.toUInt32.toInt32))])
    refine own_go (fun _ k => XS.iload X24.here hx rfl (hb hby at_157) rfl k) ?_
    show own_Go _ _ _ _ T24 (mkF m 159 #[.val (.long q_1), .second, .val (.int p_2), .val (.int p_3), .val (.int (p_3.toUInt32.toUInt16.toUInt32.toInt32)), .val (.ref b1), .val (.int (0 : Int32)), .val (.long v32), .second] [(.int (p_3.toUInt32.toUInt16.toUInt32.toInt32)), (.int (p_3.toUInt32.toUInt16.toUInt32.toInt32))])
    have hc38 : (p_3.toUInt32.toUInt16.toUInt32.toInt32) = (p_3.toUInt32.toUInt16.toUInt32.toInt32) := rfl
    refine own_go (fun _ k => XS.icmpYes X24.here hx rfl (pc0 := 159) (pc' := 164) rfl (hb hby at_159) rfl (Jvm.Free.XT.ii_eq_t hc38) (by decide) (by decide) k) ?_
    show own_Go _ _ _ _ T24 (mkF m 164 #[.val (.long q_1), .second, .val (.int p_2), .val (.int p_3), .val (.int (p_3.toUInt32.toUInt16.toUInt32.toInt32)), .val (.ref b1), .val (.int (0 : Int32)), .val (.long v32), .second] [])
    refine own_go (fun _ k => XS.iload X24.here hx rfl (hb hby at_164) rfl k) ?_
    show own_Go _ _ _ _ T24 (mkF m 166 #[.val (.long q_1), .second, .val (.int p_2), .val (.int p_3), .val (.int (p_3.toUInt32.toUInt16.toUInt32.toInt32)), .val (.ref b1), .val (.int (0 : Int32)), .val (.long v32), .second] [(.int (0 : Int32))])
    refine own_go (fun _ k => XS.iconst X24.here hx rfl (hb hby at_166) k) ?_
    show own_Go _ _ _ _ T24 (mkF m 167 #[.val (.long q_1), .second, .val (.int p_2), .val (.int p_3), .val (.int (p_3.toUInt32.toUInt16.toUInt32.toInt32)), .val (.ref b1), .val (.int (0 : Int32)), .val (.long v32), .second] [(.int (2 : Int32)), (.int (0 : Int32))])
    have hc39 : (0 : Int32) < (2 : Int32) := by decide
    refine own_go (fun _ k => XS.icmpNo X24.here hx rfl (hb hby at_167) rfl (Jvm.Free.XT.ii_ge_f hc39) k) ?_
    show own_Go _ _ _ _ T24 (mkF m 170 #[.val (.long q_1), .second, .val (.int p_2), .val (.int p_3), .val (.int (p_3.toUInt32.toUInt16.toUInt32.toInt32)), .val (.ref b1), .val (.int (0 : Int32)), .val (.long v32), .second] [])
    refine own_go (fun _ k => XS.aload X24.here hx rfl (hb hby at_170) rfl rfl k) ?_
    show own_Go _ _ _ _ T24 (mkF m 172 #[.val (.long q_1), .second, .val (.int p_2), .val (.int p_3), .val (.int (p_3.toUInt32.toUInt16.toUInt32.toInt32)), .val (.ref b1), .val (.int (0 : Int32)), .val (.long v32), .second] [(.ref b1)])
    refine own_go (fun _ k => XS.iconst X24.here hx rfl (hb hby at_172) k) ?_
    show own_Go _ _ _ _ T24 (mkF m 173 #[.val (.long q_1), .second, .val (.int p_2), .val (.int p_3), .val (.int (p_3.toUInt32.toUInt16.toUInt32.toInt32)), .val (.ref b1), .val (.int (0 : Int32)), .val (.long v32), .second] [(.int (5 : Int32)), (.ref b1)])
    obtain ⟨q40, c40, R40, s40, t40⟩ := id f25
    have hin40 : ¬ ((5 : Int32) < 0 ∨ c40.slots.size ≤ ((5 : Int32)).toNatClampNeg) := inb_of s40 ⟨by decide, by decide⟩
    have u40 : c40.slots[((5 : Int32)).toNatClampNeg]? = some (.int (p_3.toUInt32.toUInt16.toUInt32.toInt32)) := own_at (k := 5) t40 s40 hin40 (by decide) (rfl)
    refine own_go (fun _ k => X24.caload hx (j := (5 : Int32)) (v := (.int (p_3.toUInt32.toUInt16.toUInt32.toInt32))) R40.1 (State.isArrayOf_alike hZ.alike R40.2.1) R40.2.2 hin40 u40 (g := (mkF m 173 #[.val (.long q_1), .second, .val (.int p_2), .val (.int p_3), .val (.int (p_3.toUInt32.toUInt16.toUInt32.toInt32)), .val (.ref b1), .val (.int (0 : Int32)), .val (.long v32), .second] [(.int (5 : Int32)), (.ref b1)])) rfl rfl (hb hby at_173) _ k) ?_
    show own_Go _ _ _ _ T24 (mkF m 174 #[.val (.long q_1), .second, .val (.int p_2), .val (.int p_3), .val (.int (p_3.toUInt32.toUInt16.toUInt32.toInt32)), .val (.ref b1), .val (.int (0 : Int32)), .val (.long v32), .second] [(.int (p_3.toUInt32.toUInt16.toUInt32.toInt32))])
    refine own_go (fun _ k => XS.iload X24.here hx rfl (hb hby at_174) rfl k) ?_
    show own_Go _ _ _ _ T24 (mkF m 176 #[.val (.long q_1), .second, .val (.int p_2), .val (.int p_3), .val (.int (p_3.toUInt32.toUInt16.toUInt32.toInt32)), .val (.ref b1), .val (.int (0 : Int32)), .val (.long v32), .second] [(.int (p_3.toUInt32.toUInt16.toUInt32.toInt32)), (.int (p_3.toUInt32.toUInt16.toUInt32.toInt32))])
    have hc41 : (p_3.toUInt32.toUInt16.toUInt32.toInt32) = (p_3.toUInt32.toUInt16.toUInt32.toInt32) := rfl
    refine own_go (fun _ k => XS.icmpYes X24.here hx rfl (pc0 := 176) (pc' := 181) rfl (hb hby at_176) rfl (Jvm.Free.XT.ii_eq_t hc41) (by decide) (by decide) k) ?_
    show own_Go _ _ _ _ T24 (mkF m 181 #[.val (.long q_1), .second, .val (.int p_2), .val (.int p_3), .val (.int (p_3.toUInt32.toUInt16.toUInt32.toInt32)), .val (.ref b1), .val (.int (0 : Int32)), .val (.long v32), .second] [])
    refine own_go (fun _ k => XS.iconst X24.here hx rfl (hb hby at_181) k) ?_
    show own_Go _ _ _ _ T24 (mkF m 182 #[.val (.long q_1), .second, .val (.int p_2), .val (.int p_3), .val (.int (p_3.toUInt32.toUInt16.toUInt32.toInt32)), .val (.ref b1), .val (.int (0 : Int32)), .val (.long v32), .second] [(.int (1 : Int32))])
    obtain ⟨fs, hr, hrun, hended, hW, hsame⟩ := X24.leave (v := some (.int (1 : Int32))) (fun h => by rw [Bd.returns] at h; cases h)
    refine ⟨_, _, retOut X24 hx Bd.returns rfl (Or.inl ⟨rfl, Or.inr (Or.inl rfl), _, rfl⟩) (hb hby at_182) hr, hrun, hended, _, _, rfl, ?_, ⟨_, rfl⟩, hW, hsame.mono (by rw [y24]; decide) (by rw [z24]; decide)⟩
    exact ⟨rfl, N24⟩
  · subst hs23
    show own_Go _ _ _ _ T19 (mkF m 54 #[.val (.long q_1), .second, .val (.int p_2), .val (.int p_3), .val (.int (p_3.toUInt32.toUInt16.toUInt32.toInt32)), .val (.ref b1), .val (.int (1 : Int32)), .unset, .unset] [])
    refine own_go (fun _ k => XS.lloadN X19.here hx rfl (hb hby at_54) rfl k) ?_
    show own_Go _ _ _ _ T19 (mkF m 55 #[.val (.long q_1), .second, .val (.int p_2), .val (.int p_3), .val (.int (p_3.toUInt32.toUInt16.toUInt32.toInt32)), .val (.ref b1), .val (.int (1 : Int32)), .unset, .unset] [(.long q_1)])
    refine own_go (fun _ k => XS.aload X19.here hx rfl (hb hby at_55) rfl rfl k) ?_
    show own_Go _ _ _ _ T19 (mkF m 57 #[.val (.long q_1), .second, .val (.int p_2), .val (.int p_3), .val (.int (p_3.toUInt32.toUInt16.toUInt32.toInt32)), .val (.ref b1), .val (.int (1 : Int32)), .unset, .unset] [(.ref b1), (.long q_1)])
    refine own_go (fun _ k => XS.iload X19.here hx rfl (hb hby at_57) rfl k) ?_
    show own_Go _ _ _ _ T19 (mkF m 59 #[.val (.long q_1), .second, .val (.int p_2), .val (.int p_3), .val (.int (p_3.toUInt32.toUInt16.toUInt32.toInt32)), .val (.ref b1), .val (.int (1 : Int32)), .unset, .unset] [(.int (1 : Int32)), (.ref b1), (.long q_1)])
    obtain ⟨_, _, ⟨T43, L43, k43, n43⟩, -, X43, ⟨Lc43, hQ43, l43, y43, z43⟩, st43⟩ := Jvm.LawKit.callS X19 hx (y := (⟨"com/example/honest_codec/honestcodec/Words", "putLanes", "(J[CI)V"⟩ : MethodName)) hown (mvT hZ (hw _ (List.mem_of_getElem? (i := 2) rfl))) (mvT hZ (hw _ (List.mem_of_getElem? (i := 3) rfl))) (mvT hZ (hw _ (List.mem_of_getElem? (i := 4) rfl))) (mvT hZ (hw _ (List.mem_of_getElem? (i := 5) rfl))) (by decide) (backOf (W := 0) (own_rm1_1 l Z a0 hw [] q_1 b1 (own_upd (own_upd (own_upd (own_upd (own_upd (own_upd (fun _ => (.int (0 : Int32))) 0 (.int (p_3.toUInt32.toUInt16.toUInt32.toInt32))) 1 (.int (p_3.toUInt32.toUInt16.toUInt32.toInt32))) 2 (.int (p_3.toUInt32.toUInt16.toUInt32.toInt32))) 3 (.int (p_3.toUInt32.toUInt16.toUInt32.toInt32))) 4 (.int (p_3.toUInt32.toUInt16.toUInt32.toInt32))) 5 (.int (p_3.toUInt32.toUInt16.toUInt32.toInt32))) h19 n0 (by omega) V19 (by omega)) hZ (hw _ (List.mem_of_getElem? (i := 5) rfl)) (hw _ (List.mem_of_getElem? (i := 4) rfl)) (by decide) (by decide)) (g := (mkF m 59 #[.val (.long q_1), .second, .val (.int p_2), .val (.int p_3), .val (.int (p_3.toUInt32.toUInt16.toUInt32.toInt32)), .val (.ref b1), .val (.int (1 : Int32)), .unset, .unset] [(.int (1 : Int32)), (.ref b1), (.long q_1)])) rfl (by rw [hml]; rfl) (argsL := [(.long q_1), (.ref b1), (.int (1 : Int32))]) (rest := []) (lenOf own_pd0 rfl) rfl (by show 2 * 0 + _ ≤ _; exact Nat.le_of_eq rfl) (hb hby at_59) (fun _ _ => ⟨rfl, e19, (by decide : 1 + 0 ≤ _), (by decide : 6 + 0 ≤ _)⟩)
    dsimp only [Pt.U, Pt.locs, Pt.cells, Pt.slots] at X43 l43 y43 z43 st43 hQ43
    have y43 : k43 = 1 := y43
    have z43 : n43 = 6 := z43
    obtain ⟨rfl, N43q, K43q, f44⟩ := hQ43
    have N43 : Fr n0 L43 := by rw [l43]; exact Fr.app N19 N43q
    have z45 := K43q.1
    have z46 := own_lt f44.lt
    refine own_go (fun _ k => st43 _ k) ?_
    show own_Go _ _ _ _ T43 (mkF m 62 #[.val (.long q_1), .second, .val (.int p_2), .val (.int p_3), .val (.int (p_3.toUInt32.toUInt16.toUInt32.toInt32)), .val (.ref b1), .val (.int (1 : Int32)), .unset, .unset] [])
    refine own_go (fun _ k => XS.aload X43.here hx rfl (hb hby at_62) rfl rfl k) ?_
    show own_Go _ _ _ _ T43 (mkF m 64 #[.val (.long q_1), .second, .val (.int p_2), .val (.int p_3), .val (.int (p_3.toUInt32.toUInt16.toUInt32.toInt32)), .val (.ref b1), .val (.int (1 : Int32)), .unset, .unset] [(.ref b1)])
    refine own_go (fun _ k => XS.iload X43.here hx rfl (hb hby at_64) rfl k) ?_
    show own_Go _ _ _ _ T43 (mkF m 66 #[.val (.long q_1), .second, .val (.int p_2), .val (.int p_3), .val (.int (p_3.toUInt32.toUInt16.toUInt32.toInt32)), .val (.ref b1), .val (.int (1 : Int32)), .unset, .unset] [(.int (1 : Int32)), (.ref b1)])
    obtain ⟨q47, c47, R47, s47, t47⟩ := id f44
    have hin47 : ¬ ((1 : Int32) < 0 ∨ c47.slots.size ≤ ((1 : Int32)).toNatClampNeg) := inb_of s47 ⟨by decide, by decide⟩
    have u47 : c47.slots[((1 : Int32)).toNatClampNeg]? = some (.int ((q_1.toInt32).toUInt32.toUInt16.toUInt32.toInt32)) := own_at (k := 1) t47 s47 hin47 (by decide) (rfl)
    refine own_go (fun _ k => X43.caload hx (j := (1 : Int32)) (v := (.int ((q_1.toInt32).toUInt32.toUInt16.toUInt32.toInt32))) R47.1 (State.isArrayOf_alike hZ.alike R47.2.1) R47.2.2 hin47 u47 (g := (mkF m 66 #[.val (.long q_1), .second, .val (.int p_2), .val (.int p_3), .val (.int (p_3.toUInt32.toUInt16.toUInt32.toInt32)), .val (.ref b1), .val (.int (1 : Int32)), .unset, .unset] [(.int (1 : Int32)), (.ref b1)])) rfl rfl (hb hby at_66) _ k) ?_
    show own_Go _ _ _ _ T43 (mkF m 67 #[.val (.long q_1), .second, .val (.int p_2), .val (.int p_3), .val (.int (p_3.toUInt32.toUInt16.toUInt32.toInt32)), .val (.ref b1), .val (.int (1 : Int32)), .unset, .unset] [(.int ((q_1.toInt32).toUInt32.toUInt16.toUInt32.toInt32))])
    refine own_go (fun _ k => XS.i2l X43.here hx rfl (hb hby at_67) rfl k) ?_
    show own_Go _ _ _ _ T43 (mkF m 68 #[.val (.long q_1), .second, .val (.int p_2), .val (.int p_3), .val (.int (p_3.toUInt32.toUInt16.toUInt32.toInt32)), .val (.ref b1), .val (.int (1 : Int32)), .unset, .unset] [(.long (((q_1.toInt32).toUInt32.toUInt16.toUInt32.toInt32).toInt64))])
    refine own_go (fun _ k => XS.aload X43.here hx rfl (hb hby at_68) rfl rfl k) ?_
    show own_Go _ _ _ _ T43 (mkF m 70 #[.val (.long q_1), .second, .val (.int p_2), .val (.int p_3), .val (.int (p_3.toUInt32.toUInt16.toUInt32.toInt32)), .val (.ref b1), .val (.int (1 : Int32)), .unset, .unset] [(.ref b1), (.long (((q_1.toInt32).toUInt32.toUInt16.toUInt32.toInt32).toInt64))])
    refine own_go (fun _ k => XS.iload X43.here hx rfl (hb hby at_70) rfl k) ?_
    show own_Go _ _ _ _ T43 (mkF m 72 #[.val (.long q_1), .second, .val (.int p_2), .val (.int p_3), .val (.int (p_3.toUInt32.toUInt16.toUInt32.toInt32)), .val (.ref b1), .val (.int (1 : Int32)), .unset, .unset] [(.int (1 : Int32)), (.ref b1), (.long (((q_1.toInt32).toUInt32.toUInt16.toUInt32.toInt32).toInt64))])
    refine own_go (fun _ k => XS.iconst X43.here hx rfl (hb hby at_72) k) ?_
    show own_Go _ _ _ _ T43 (mkF m 73 #[.val (.long q_1), .second, .val (.int p_2), .val (.int p_3), .val (.int (p_3.toUInt32.toUInt16.toUInt32.toInt32)), .val (.ref b1), .val (.int (1 : Int32)), .unset, .unset] [(.int (1 : Int32)), (.int (1 : Int32)), (.ref b1), (.long (((q_1.toInt32).toUInt32.toUInt16.toUInt32.toInt32).toInt64))])
    refine own_go (fun _ k => XS.iadd X43.here hx rfl (hb hby at_73) rfl k) ?_
    show own_Go _ _ _ _ T43 (mkF m 74 #[.val (.long q_1), .second, .val (.int p_2), .val (.int p_3), .val (.int (p_3.toUInt32.toUInt16.toUInt32.toInt32)), .val (.ref b1), .val (.int (1 : Int32)), .unset, .unset] [(.int (2 : Int32)), (.ref b1), (.long (((q_1.toInt32).toUInt32.toUInt16.toUInt32.toInt32).toInt64))])
    obtain ⟨q48, c48, R48, s48, t48⟩ := id f44
    have hin48 : ¬ ((2 : Int32) < 0 ∨ c48.slots.size ≤ ((2 : Int32)).toNatClampNeg) := inb_of s48 ⟨by decide, by decide⟩
    have u48 : c48.slots[((2 : Int32)).toNatClampNeg]? = some (.int ((((q_1.toUInt64 >>> ((16 : Int32) &&& 0x3f).toInt64.toUInt64).toInt64).toInt32).toUInt32.toUInt16.toUInt32.toInt32)) := own_at (k := 2) t48 s48 hin48 (by decide) (rfl)
    refine own_go (fun _ k => X43.caload hx (j := (2 : Int32)) (v := (.int ((((q_1.toUInt64 >>> ((16 : Int32) &&& 0x3f).toInt64.toUInt64).toInt64).toInt32).toUInt32.toUInt16.toUInt32.toInt32))) R48.1 (State.isArrayOf_alike hZ.alike R48.2.1) R48.2.2 hin48 u48 (g := (mkF m 74 #[.val (.long q_1), .second, .val (.int p_2), .val (.int p_3), .val (.int (p_3.toUInt32.toUInt16.toUInt32.toInt32)), .val (.ref b1), .val (.int (1 : Int32)), .unset, .unset] [(.int (2 : Int32)), (.ref b1), (.long (((q_1.toInt32).toUInt32.toUInt16.toUInt32.toInt32).toInt64))])) rfl rfl (hb hby at_74) _ k) ?_
    show own_Go _ _ _ _ T43 (mkF m 75 #[.val (.long q_1), .second, .val (.int p_2), .val (.int p_3), .val (.int (p_3.toUInt32.toUInt16.toUInt32.toInt32)), .val (.ref b1), .val (.int (1 : Int32)), .unset, .unset] [(.int ((((q_1.toUInt64 >>> ((16 : Int32) &&& 0x3f).toInt64.toUInt64).toInt64).toInt32).toUInt32.toUInt16.toUInt32.toInt32)), (.long (((q_1.toInt32).toUInt32.toUInt16.toUInt32.toInt32).toInt64))])
    refine own_go (fun _ k => XS.i2l X43.here hx rfl (hb hby at_75) rfl k) ?_
    show own_Go _ _ _ _ T43 (mkF m 76 #[.val (.long q_1), .second, .val (.int p_2), .val (.int p_3), .val (.int (p_3.toUInt32.toUInt16.toUInt32.toInt32)), .val (.ref b1), .val (.int (1 : Int32)), .unset, .unset] [(.long (((((q_1.toUInt64 >>> ((16 : Int32) &&& 0x3f).toInt64.toUInt64).toInt64).toInt32).toUInt32.toUInt16.toUInt32.toInt32).toInt64)), (.long (((q_1.toInt32).toUInt32.toUInt16.toUInt32.toInt32).toInt64))])
    refine own_go (fun _ k => XS.bipush X43.here hx rfl (hb hby at_76) k) ?_
    show own_Go _ _ _ _ T43 (mkF m 78 #[.val (.long q_1), .second, .val (.int p_2), .val (.int p_3), .val (.int (p_3.toUInt32.toUInt16.toUInt32.toInt32)), .val (.ref b1), .val (.int (1 : Int32)), .unset, .unset] [(.int (16 : Int32)), (.long (((((q_1.toUInt64 >>> ((16 : Int32) &&& 0x3f).toInt64.toUInt64).toInt64).toInt32).toUInt32.toUInt16.toUInt32.toInt32).toInt64)), (.long (((q_1.toInt32).toUInt32.toUInt16.toUInt32.toInt32).toInt64))])
    refine own_go (fun _ k => XS.lshl X43.here hx rfl (hb hby at_78) rfl k) ?_
    show own_Go _ _ _ _ T43 (mkF m 79 #[.val (.long q_1), .second, .val (.int p_2), .val (.int p_3), .val (.int (p_3.toUInt32.toUInt16.toUInt32.toInt32)), .val (.ref b1), .val (.int (1 : Int32)), .unset, .unset] [(.long ((((((q_1.toUInt64 >>> ((16 : Int32) &&& 0x3f).toInt64.toUInt64).toInt64).toInt32).toUInt32.toUInt16.toUInt32.toInt32).toInt64) <<< ((16 : Int32) &&& 0x3f).toInt64)), (.long (((q_1.toInt32).toUInt32.toUInt16.toUInt32.toInt32).toInt64))])
    refine own_go (fun _ k => XS.lor X43.here hx rfl (hb hby at_79) rfl k) ?_
    show own_Go _ _ _ _ T43 (mkF m 80 #[.val (.long q_1), .second, .val (.int p_2), .val (.int p_3), .val (.int (p_3.toUInt32.toUInt16.toUInt32.toInt32)), .val (.ref b1), .val (.int (1 : Int32)), .unset, .unset] [(.long ((((q_1.toInt32).toUInt32.toUInt16.toUInt32.toInt32).toInt64) ||| ((((((q_1.toUInt64 >>> ((16 : Int32) &&& 0x3f).toInt64.toUInt64).toInt64).toInt32).toUInt32.toUInt16.toUInt32.toInt32).toInt64) <<< ((16 : Int32) &&& 0x3f).toInt64)))])
    refine own_go (fun _ k => XS.aload X43.here hx rfl (hb hby at_80) rfl rfl k) ?_
    show own_Go _ _ _ _ T43 (mkF m 82 #[.val (.long q_1), .second, .val (.int p_2), .val (.int p_3), .val (.int (p_3.toUInt32.toUInt16.toUInt32.toInt32)), .val (.ref b1), .val (.int (1 : Int32)), .unset, .unset] [(.ref b1), (.long ((((q_1.toInt32).toUInt32.toUInt16.toUInt32.toInt32).toInt64) ||| ((((((q_1.toUInt64 >>> ((16 : Int32) &&& 0x3f).toInt64.toUInt64).toInt64).toInt32).toUInt32.toUInt16.toUInt32.toInt32).toInt64) <<< ((16 : Int32) &&& 0x3f).toInt64)))])
    refine own_go (fun _ k => XS.iload X43.here hx rfl (hb hby at_82) rfl k) ?_
    show own_Go _ _ _ _ T43 (mkF m 84 #[.val (.long q_1), .second, .val (.int p_2), .val (.int p_3), .val (.int (p_3.toUInt32.toUInt16.toUInt32.toInt32)), .val (.ref b1), .val (.int (1 : Int32)), .unset, .unset] [(.int (1 : Int32)), (.ref b1), (.long ((((q_1.toInt32).toUInt32.toUInt16.toUInt32.toInt32).toInt64) ||| ((((((q_1.toUInt64 >>> ((16 : Int32) &&& 0x3f).toInt64.toUInt64).toInt64).toInt32).toUInt32.toUInt16.toUInt32.toInt32).toInt64) <<< ((16 : Int32) &&& 0x3f).toInt64)))])
    refine own_go (fun _ k => XS.iconst X43.here hx rfl (hb hby at_84) k) ?_
    show own_Go _ _ _ _ T43 (mkF m 85 #[.val (.long q_1), .second, .val (.int p_2), .val (.int p_3), .val (.int (p_3.toUInt32.toUInt16.toUInt32.toInt32)), .val (.ref b1), .val (.int (1 : Int32)), .unset, .unset] [(.int (2 : Int32)), (.int (1 : Int32)), (.ref b1), (.long ((((q_1.toInt32).toUInt32.toUInt16.toUInt32.toInt32).toInt64) ||| ((((((q_1.toUInt64 >>> ((16 : Int32) &&& 0x3f).toInt64.toUInt64).toInt64).toInt32).toUInt32.toUInt16.toUInt32.toInt32).toInt64) <<< ((16 : Int32) &&& 0x3f).toInt64)))])
    refine own_go (fun _ k => XS.iadd X43.here hx rfl (hb hby at_85) rfl k) ?_
    show own_Go _ _ _ _ T43 (mkF m 86 #[.val (.long q_1), .second, .val (.int p_2), .val (.int p_3), .val (.int (p_3.toUInt32.toUInt16.toUInt32.toInt32)), .val (.ref b1), .val (.int (1 : Int32)), .unset, .unset] [(.int (3 : Int32)), (.ref b1), (.long ((((q_1.toInt32).toUInt32.toUInt16.toUInt32.toInt32).toInt64) ||| ((((((q_1.toUInt64 >>> ((16 : Int32) &&& 0x3f).toInt64.toUInt64).toInt64).toInt32).toUInt32.toUInt16.toUInt32.toInt32).toInt64) <<< ((16 : Int32) &&& 0x3f).toInt64)))])
    obtain ⟨q49, c49, R49, s49, t49⟩ := id f44
    have hin49 : ¬ ((3 : Int32) < 0 ∨ c49.slots.size ≤ ((3 : Int32)).toNatClampNeg) := inb_of s49 ⟨by decide, by decide⟩
    have u49 : c49.slots[((3 : Int32)).toNatClampNeg]? = some (.int ((((q_1.toUInt64 >>> ((32 : Int32) &&& 0x3f).toInt64.toUInt64).toInt64).toInt32).toUInt32.toUInt16.toUInt32.toInt32)) := own_at (k := 3) t49 s49 hin49 (by decide) (rfl)
    refine own_go (fun _ k => X43.caload hx (j := (3 : Int32)) (v := (.int ((((q_1.toUInt64 >>> ((32 : Int32) &&& 0x3f).toInt64.toUInt64).toInt64).toInt32).toUInt32.toUInt16.toUInt32.toInt32))) R49.1 (State.isArrayOf_alike hZ.alike R49.2.1) R49.2.2 hin49 u49 (g := (mkF m 86 #[.val (.long q_1), .second, .val (.int p_2), .val (.int p_3), .val (.int (p_3.toUInt32.toUInt16.toUInt32.toInt32)), .val (.ref b1), .val (.int (1 : Int32)), .unset, .unset] [(.int (3 : Int32)), (.ref b1), (.long ((((q_1.toInt32).toUInt32.toUInt16.toUInt32.toInt32).toInt64) ||| ((((((q_1.toUInt64 >>> ((16 : Int32) &&& 0x3f).toInt64.toUInt64).toInt64).toInt32).toUInt32.toUInt16.toUInt32.toInt32).toInt64) <<< ((16 : Int32) &&& 0x3f).toInt64)))])) rfl rfl (hb hby at_86) _ k) ?_
    show own_Go _ _ _ _ T43 (mkF m 87 #[.val (.long q_1), .second, .val (.int p_2), .val (.int p_3), .val (.int (p_3.toUInt32.toUInt16.toUInt32.toInt32)), .val (.ref b1), .val (.int (1 : Int32)), .unset, .unset] [(.int ((((q_1.toUInt64 >>> ((32 : Int32) &&& 0x3f).toInt64.toUInt64).toInt64).toInt32).toUInt32.toUInt16.toUInt32.toInt32)), (.long ((((q_1.toInt32).toUInt32.toUInt16.toUInt32.toInt32).toInt64) ||| ((((((q_1.toUInt64 >>> ((16 : Int32) &&& 0x3f).toInt64.toUInt64).toInt64).toInt32).toUInt32.toUInt16.toUInt32.toInt32).toInt64) <<< ((16 : Int32) &&& 0x3f).toInt64)))])
    refine own_go (fun _ k => XS.i2l X43.here hx rfl (hb hby at_87) rfl k) ?_
    show own_Go _ _ _ _ T43 (mkF m 88 #[.val (.long q_1), .second, .val (.int p_2), .val (.int p_3), .val (.int (p_3.toUInt32.toUInt16.toUInt32.toInt32)), .val (.ref b1), .val (.int (1 : Int32)), .unset, .unset] [(.long (((((q_1.toUInt64 >>> ((32 : Int32) &&& 0x3f).toInt64.toUInt64).toInt64).toInt32).toUInt32.toUInt16.toUInt32.toInt32).toInt64)), (.long ((((q_1.toInt32).toUInt32.toUInt16.toUInt32.toInt32).toInt64) ||| ((((((q_1.toUInt64 >>> ((16 : Int32) &&& 0x3f).toInt64.toUInt64).toInt64).toInt32).toUInt32.toUInt16.toUInt32.toInt32).toInt64) <<< ((16 : Int32) &&& 0x3f).toInt64)))])
    refine own_go (fun _ k => XS.bipush X43.here hx rfl (hb hby at_88) k) ?_
    show own_Go _ _ _ _ T43 (mkF m 90 #[.val (.long q_1), .second, .val (.int p_2), .val (.int p_3), .val (.int (p_3.toUInt32.toUInt16.toUInt32.toInt32)), .val (.ref b1), .val (.int (1 : Int32)), .unset, .unset] [(.int (32 : Int32)), (.long (((((q_1.toUInt64 >>> ((32 : Int32) &&& 0x3f).toInt64.toUInt64).toInt64).toInt32).toUInt32.toUInt16.toUInt32.toInt32).toInt64)), (.long ((((q_1.toInt32).toUInt32.toUInt16.toUInt32.toInt32).toInt64) ||| ((((((q_1.toUInt64 >>> ((16 : Int32) &&& 0x3f).toInt64.toUInt64).toInt64).toInt32).toUInt32.toUInt16.toUInt32.toInt32).toInt64) <<< ((16 : Int32) &&& 0x3f).toInt64)))])
    refine own_go (fun _ k => XS.lshl X43.here hx rfl (hb hby at_90) rfl k) ?_
    show own_Go _ _ _ _ T43 (mkF m 91 #[.val (.long q_1), .second, .val (.int p_2), .val (.int p_3), .val (.int (p_3.toUInt32.toUInt16.toUInt32.toInt32)), .val (.ref b1), .val (.int (1 : Int32)), .unset, .unset] [(.long ((((((q_1.toUInt64 >>> ((32 : Int32) &&& 0x3f).toInt64.toUInt64).toInt64).toInt32).toUInt32.toUInt16.toUInt32.toInt32).toInt64) <<< ((32 : Int32) &&& 0x3f).toInt64)), (.long ((((q_1.toInt32).toUInt32.toUInt16.toUInt32.toInt32).toInt64) ||| ((((((q_1.toUInt64 >>> ((16 : Int32) &&& 0x3f).toInt64.toUInt64).toInt64).toInt32).toUInt32.toUInt16.toUInt32.toInt32).toInt64) <<< ((16 : Int32) &&& 0x3f).toInt64)))])
    refine own_go (fun _ k => XS.lor X43.here hx rfl (hb hby at_91) rfl k) ?_
    show own_Go _ _ _ _ T43 (mkF m 92 #[.val (.long q_1), .second, .val (.int p_2), .val (.int p_3), .val (.int (p_3.toUInt32.toUInt16.toUInt32.toInt32)), .val (.ref b1), .val (.int (1 : Int32)), .unset, .unset] [(.long (((((q_1.toInt32).toUInt32.toUInt16.toUInt32.toInt32).toInt64) ||| ((((((q_1.toUInt64 >>> ((16 : Int32) &&& 0x3f).toInt64.toUInt64).toInt64).toInt32).toUInt32.toUInt16.toUInt32.toInt32).toInt64) <<< ((16 : Int32) &&& 0x3f).toInt64)) ||| ((((((q_1.toUInt64 >>> ((32 : Int32) &&& 0x3f).toInt64.toUInt64).toInt64).toInt32).toUInt32.toUInt16.toUInt32.toInt32).toInt64) <<< ((32 : Int32) &&& 0x3f).toInt64)))])
    refine own_go (fun _ k => XS.aload X43.here hx rfl (hb hby at_92) rfl rfl k) ?_
    show own_Go _ _ _ _ T43 (mkF m 94 #[.val (.long q_1), .second, .val (.int p_2), .val (.int p_3), .val (.int (p_3.toUInt32.toUInt16.toUInt32.toInt32)), .val (.ref b1), .val (.int (1 : Int32)), .unset, .unset] [(.ref b1), (.long (((((q_1.toInt32).toUInt32.toUInt16.toUInt32.toInt32).toInt64) ||| ((((((q_1.toUInt64 >>> ((16 : Int32) &&& 0x3f).toInt64.toUInt64).toInt64).toInt32).toUInt32.toUInt16.toUInt32.toInt32).toInt64) <<< ((16 : Int32) &&& 0x3f).toInt64)) ||| ((((((q_1.toUInt64 >>> ((32 : Int32) &&& 0x3f).toInt64.toUInt64).toInt64).toInt32).toUInt32.toUInt16.toUInt32.toInt32).toInt64) <<< ((32 : Int32) &&& 0x3f).toInt64)))])
    refine own_go (fun _ k => XS.iload X43.here hx rfl (hb hby at_94) rfl k) ?_
    show own_Go _ _ _ _ T43 (mkF m 96 #[.val (.long q_1), .second, .val (.int p_2), .val (.int p_3), .val (.int (p_3.toUInt32.toUInt16.toUInt32.toInt32)), .val (.ref b1), .val (.int (1 : Int32)), .unset, .unset] [(.int (1 : Int32)), (.ref b1), (.long (((((q_1.toInt32).toUInt32.toUInt16.toUInt32.toInt32).toInt64) ||| ((((((q_1.toUInt64 >>> ((16 : Int32) &&& 0x3f).toInt64.toUInt64).toInt64).toInt32).toUInt32.toUInt16.toUInt32.toInt32).toInt64) <<< ((16 : Int32) &&& 0x3f).toInt64)) ||| ((((((q_1.toUInt64 >>> ((32 : Int32) &&& 0x3f).toInt64.toUInt64).toInt64).toInt32).toUInt32.toUInt16.toUInt32.toInt32).toInt64) <<< ((32 : Int32) &&& 0x3f).toInt64)))])
    refine own_go (fun _ k => XS.iconst X43.here hx rfl (hb hby at_96) k) ?_
    show own_Go _ _ _ _ T43 (mkF m 97 #[.val (.long q_1), .second, .val (.int p_2), .val (.int p_3), .val (.int (p_3.toUInt32.toUInt16.toUInt32.toInt32)), .val (.ref b1), .val (.int (1 : Int32)), .unset, .unset] [(.int (3 : Int32)), (.int (1 : Int32)), (.ref b1), (.long (((((q_1.toInt32).toUInt32.toUInt16.toUInt32.toInt32).toInt64) ||| ((((((q_1.toUInt64 >>> ((16 : Int32) &&& 0x3f).toInt64.toUInt64).toInt64).toInt32).toUInt32.toUInt16.toUInt32.toInt32).toInt64) <<< ((16 : Int32) &&& 0x3f).toInt64)) ||| ((((((q_1.toUInt64 >>> ((32 : Int32) &&& 0x3f).toInt64.toUInt64).toInt64).toInt32).toUInt32.toUInt16.toUInt32.toInt32).toInt64) <<< ((32 : Int32) &&& 0x3f).toInt64)))])
    refine own_go (fun _ k => XS.iadd X43.here hx rfl (hb hby at_97) rfl k) ?_
    show own_Go _ _ _ _ T43 (mkF m 98 #[.val (.long q_1), .second, .val (.int p_2), .val (.int p_3), .val (.int (p_3.toUInt32.toUInt16.toUInt32.toInt32)), .val (.ref b1), .val (.int (1 : Int32)), .unset, .unset] [(.int (4 : Int32)), (.ref b1), (.long (((((q_1.toInt32).toUInt32.toUInt16.toUInt32.toInt32).toInt64) ||| ((((((q_1.toUInt64 >>> ((16 : Int32) &&& 0x3f).toInt64.toUInt64).toInt64).toInt32).toUInt32.toUInt16.toUInt32.toInt32).toInt64) <<< ((16 : Int32) &&& 0x3f).toInt64)) ||| ((((((q_1.toUInt64 >>> ((32 : Int32) &&& 0x3f).toInt64.toUInt64).toInt64).toInt32).toUInt32.toUInt16.toUInt32.toInt32).toInt64) <<< ((32 : Int32) &&& 0x3f).toInt64)))])
    obtain ⟨q50, c50, R50, s50, t50⟩ := id f44
    have hin50 : ¬ ((4 : Int32) < 0 ∨ c50.slots.size ≤ ((4 : Int32)).toNatClampNeg) := inb_of s50 ⟨by decide, by decide⟩
    have u50 : c50.slots[((4 : Int32)).toNatClampNeg]? = some (.int ((((q_1.toUInt64 >>> ((48 : Int32) &&& 0x3f).toInt64.toUInt64).toInt64).toInt32).toUInt32.toUInt16.toUInt32.toInt32)) := own_at (k := 4) t50 s50 hin50 (by decide) (rfl)
    refine own_go (fun _ k => X43.caload hx (j := (4 : Int32)) (v := (.int ((((q_1.toUInt64 >>> ((48 : Int32) &&& 0x3f).toInt64.toUInt64).toInt64).toInt32).toUInt32.toUInt16.toUInt32.toInt32))) R50.1 (State.isArrayOf_alike hZ.alike R50.2.1) R50.2.2 hin50 u50 (g := (mkF m 98 #[.val (.long q_1), .second, .val (.int p_2), .val (.int p_3), .val (.int (p_3.toUInt32.toUInt16.toUInt32.toInt32)), .val (.ref b1), .val (.int (1 : Int32)), .unset, .unset] [(.int (4 : Int32)), (.ref b1), (.long (((((q_1.toInt32).toUInt32.toUInt16.toUInt32.toInt32).toInt64) ||| ((((((q_1.toUInt64 >>> ((16 : Int32) &&& 0x3f).toInt64.toUInt64).toInt64).toInt32).toUInt32.toUInt16.toUInt32.toInt32).toInt64) <<< ((16 : Int32) &&& 0x3f).toInt64)) ||| ((((((q_1.toUInt64 >>> ((32 : Int32) &&& 0x3f).toInt64.toUInt64).toInt64).toInt32).toUInt32.toUInt16.toUInt32.toInt32).toInt64) <<< ((32 : Int32) &&& 0x3f).toInt64)))])) rfl rfl (hb hby at_98) _ k) ?_
    show own_Go _ _ _ _ T43 (mkF m 99 #[.val (.long q_1), .second, .val (.int p_2), .val (.int p_3), .val (.int (p_3.toUInt32.toUInt16.toUInt32.toInt32)), .val (.ref b1), .val (.int (1 : Int32)), .unset, .unset] [(.int ((((q_1.toUInt64 >>> ((48 : Int32) &&& 0x3f).toInt64.toUInt64).toInt64).toInt32).toUInt32.toUInt16.toUInt32.toInt32)), (.long (((((q_1.toInt32).toUInt32.toUInt16.toUInt32.toInt32).toInt64) ||| ((((((q_1.toUInt64 >>> ((16 : Int32) &&& 0x3f).toInt64.toUInt64).toInt64).toInt32).toUInt32.toUInt16.toUInt32.toInt32).toInt64) <<< ((16 : Int32) &&& 0x3f).toInt64)) ||| ((((((q_1.toUInt64 >>> ((32 : Int32) &&& 0x3f).toInt64.toUInt64).toInt64).toInt32).toUInt32.toUInt16.toUInt32.toInt32).toInt64) <<< ((32 : Int32) &&& 0x3f).toInt64)))])
    refine own_go (fun _ k => XS.i2l X43.here hx rfl (hb hby at_99) rfl k) ?_
    show own_Go _ _ _ _ T43 (mkF m 100 #[.val (.long q_1), .second, .val (.int p_2), .val (.int p_3), .val (.int (p_3.toUInt32.toUInt16.toUInt32.toInt32)), .val (.ref b1), .val (.int (1 : Int32)), .unset, .unset] [(.long (((((q_1.toUInt64 >>> ((48 : Int32) &&& 0x3f).toInt64.toUInt64).toInt64).toInt32).toUInt32.toUInt16.toUInt32.toInt32).toInt64)), (.long (((((q_1.toInt32).toUInt32.toUInt16.toUInt32.toInt32).toInt64) ||| ((((((q_1.toUInt64 >>> ((16 : Int32) &&& 0x3f).toInt64.toUInt64).toInt64).toInt32).toUInt32.toUInt16.toUInt32.toInt32).toInt64) <<< ((16 : Int32) &&& 0x3f).toInt64)) ||| ((((((q_1.toUInt64 >>> ((32 : Int32) &&& 0x3f).toInt64.toUInt64).toInt64).toInt32).toUInt32.toUInt16.toUInt32.toInt32).toInt64) <<< ((32 : Int32) &&& 0x3f).toInt64)))])
    refine own_go (fun _ k => XS.bipush X43.here hx rfl (hb hby at_100) k) ?_
    show own_Go _ _ _ _ T43 (mkF m 102 #[.val (.long q_1), .second, .val (.int p_2), .val (.int p_3), .val (.int (p_3.toUInt32.toUInt16.toUInt32.toInt32)), .val (.ref b1), .val (.int (1 : Int32)), .unset, .unset] [(.int (48 : Int32)), (.long (((((q_1.toUInt64 >>> ((48 : Int32) &&& 0x3f).toInt64.toUInt64).toInt64).toInt32).toUInt32.toUInt16.toUInt32.toInt32).toInt64)), (.long (((((q_1.toInt32).toUInt32.toUInt16.toUInt32.toInt32).toInt64) ||| ((((((q_1.toUInt64 >>> ((16 : Int32) &&& 0x3f).toInt64.toUInt64).toInt64).toInt32).toUInt32.toUInt16.toUInt32.toInt32).toInt64) <<< ((16 : Int32) &&& 0x3f).toInt64)) ||| ((((((q_1.toUInt64 >>> ((32 : Int32) &&& 0x3f).toInt64.toUInt64).toInt64).toInt32).toUInt32.toUInt16.toUInt32.toInt32).toInt64) <<< ((32 : Int32) &&& 0x3f).toInt64)))])
    refine own_go (fun _ k => XS.lshl X43.here hx rfl (hb hby at_102) rfl k) ?_
    show own_Go _ _ _ _ T43 (mkF m 103 #[.val (.long q_1), .second, .val (.int p_2), .val (.int p_3), .val (.int (p_3.toUInt32.toUInt16.toUInt32.toInt32)), .val (.ref b1), .val (.int (1 : Int32)), .unset, .unset] [(.long ((((((q_1.toUInt64 >>> ((48 : Int32) &&& 0x3f).toInt64.toUInt64).toInt64).toInt32).toUInt32.toUInt16.toUInt32.toInt32).toInt64) <<< ((48 : Int32) &&& 0x3f).toInt64)), (.long (((((q_1.toInt32).toUInt32.toUInt16.toUInt32.toInt32).toInt64) ||| ((((((q_1.toUInt64 >>> ((16 : Int32) &&& 0x3f).toInt64.toUInt64).toInt64).toInt32).toUInt32.toUInt16.toUInt32.toInt32).toInt64) <<< ((16 : Int32) &&& 0x3f).toInt64)) ||| ((((((q_1.toUInt64 >>> ((32 : Int32) &&& 0x3f).toInt64.toUInt64).toInt64).toInt32).toUInt32.toUInt16.toUInt32.toInt32).toInt64) <<< ((32 : Int32) &&& 0x3f).toInt64)))])
    refine own_go (fun _ k => XS.lor X43.here hx rfl (hb hby at_103) rfl k) ?_
    show own_Go _ _ _ _ T43 (mkF m 104 #[.val (.long q_1), .second, .val (.int p_2), .val (.int p_3), .val (.int (p_3.toUInt32.toUInt16.toUInt32.toInt32)), .val (.ref b1), .val (.int (1 : Int32)), .unset, .unset] [(.long ((((((q_1.toInt32).toUInt32.toUInt16.toUInt32.toInt32).toInt64) ||| ((((((q_1.toUInt64 >>> ((16 : Int32) &&& 0x3f).toInt64.toUInt64).toInt64).toInt32).toUInt32.toUInt16.toUInt32.toInt32).toInt64) <<< ((16 : Int32) &&& 0x3f).toInt64)) ||| ((((((q_1.toUInt64 >>> ((32 : Int32) &&& 0x3f).toInt64.toUInt64).toInt64).toInt32).toUInt32.toUInt16.toUInt32.toInt32).toInt64) <<< ((32 : Int32) &&& 0x3f).toInt64)) ||| ((((((q_1.toUInt64 >>> ((48 : Int32) &&& 0x3f).toInt64.toUInt64).toInt64).toInt32).toUInt32.toUInt16.toUInt32.toInt32).toInt64) <<< ((48 : Int32) &&& 0x3f).toInt64)))])
    refine own_go (fun _ k => XS.lstore X43.here hx rfl (hb hby at_104) rfl (l' := #[.val (.long q_1), .second, .val (.int p_2), .val (.int p_3), .val (.int (p_3.toUInt32.toUInt16.toUInt32.toInt32)), .val (.ref b1), .val (.int (1 : Int32)), .val (.long ((((((q_1.toInt32).toUInt32.toUInt16.toUInt32.toInt32).toInt64) ||| ((((((q_1.toUInt64 >>> ((16 : Int32) &&& 0x3f).toInt64.toUInt64).toInt64).toInt32).toUInt32.toUInt16.toUInt32.toInt32).toInt64) <<< ((16 : Int32) &&& 0x3f).toInt64)) ||| ((((((q_1.toUInt64 >>> ((32 : Int32) &&& 0x3f).toInt64.toUInt64).toInt64).toInt32).toUInt32.toUInt16.toUInt32.toInt32).toInt64) <<< ((32 : Int32) &&& 0x3f).toInt64)) ||| ((((((q_1.toUInt64 >>> ((48 : Int32) &&& 0x3f).toInt64.toUInt64).toInt64).toInt32).toUInt32.toUInt16.toUInt32.toInt32).toInt64) <<< ((48 : Int32) &&& 0x3f).toInt64))), .second]) rfl k) ?_
    show own_Go _ _ _ _ T43 (mkF m 106 #[.val (.long q_1), .second, .val (.int p_2), .val (.int p_3), .val (.int (p_3.toUInt32.toUInt16.toUInt32.toInt32)), .val (.ref b1), .val (.int (1 : Int32)), .val (.long ((((((q_1.toInt32).toUInt32.toUInt16.toUInt32.toInt32).toInt64) ||| ((((((q_1.toUInt64 >>> ((16 : Int32) &&& 0x3f).toInt64.toUInt64).toInt64).toInt32).toUInt32.toUInt16.toUInt32.toInt32).toInt64) <<< ((16 : Int32) &&& 0x3f).toInt64)) ||| ((((((q_1.toUInt64 >>> ((32 : Int32) &&& 0x3f).toInt64.toUInt64).toInt64).toInt32).toUInt32.toUInt16.toUInt32.toInt32).toInt64) <<< ((32 : Int32) &&& 0x3f).toInt64)) ||| ((((((q_1.toUInt64 >>> ((48 : Int32) &&& 0x3f).toInt64.toUInt64).toInt64).toInt32).toUInt32.toUInt16.toUInt32.toInt32).toInt64) <<< ((48 : Int32) &&& 0x3f).toInt64))), .second] [])
    generalize hdv51 : ((((((q_1.toInt32).toUInt32.toUInt16.toUInt32.toInt32).toInt64) ||| ((((((q_1.toUInt64 >>> ((16 : Int32) &&& 0x3f).toInt64.toUInt64).toInt64).toInt32).toUInt32.toUInt16.toUInt32.toInt32).toInt64) <<< ((16 : Int32) &&& 0x3f).toInt64)) ||| ((((((q_1.toUInt64 >>> ((32 : Int32) &&& 0x3f).toInt64.toUInt64).toInt64).toInt32).toUInt32.toUInt16.toUInt32.toInt32).toInt64) <<< ((32 : Int32) &&& 0x3f).toInt64)) ||| ((((((q_1.toUInt64 >>> ((48 : Int32) &&& 0x3f).toInt64.toUInt64).toInt64).toInt32).toUInt32.toUInt16.toUInt32.toInt32).toInt64) <<< ((48 : Int32) &&& 0x3f).toInt64)) = v51
    show own_Go _ _ _ _ T43 (mkF m 106 #[.val (.long q_1), .second, .val (.int p_2), .val (.int p_3), .val (.int (p_3.toUInt32.toUInt16.toUInt32.toInt32)), .val (.ref b1), .val (.int (1 : Int32)), .val (.long v51), .second] [])
    refine own_go (fun _ k => XS.lload X43.here hx rfl (hb hby at_106) rfl k) ?_
    show own_Go _ _ _ _ T43 (mkF m 108 #[.val (.long q_1), .second, .val (.int p_2), .val (.int p_3), .val (.int (p_3.toUInt32.toUInt16.toUInt32.toInt32)), .val (.ref b1), .val (.int (1 : Int32)), .val (.long v51), .second] [(.long v51)])
    refine own_go (fun _ k => XS.lloadN X43.here hx rfl (hb hby at_108) rfl k) ?_
    show own_Go _ _ _ _ T43 (mkF m 109 #[.val (.long q_1), .second, .val (.int p_2), .val (.int p_3), .val (.int (p_3.toUInt32.toUInt16.toUInt32.toInt32)), .val (.ref b1), .val (.int (1 : Int32)), .val (.long v51), .second] [(.long q_1), (.long v51)])
    refine own_go (fun _ k => XS.lcmp X43.here hx rfl (hb hby at_109) rfl k) ?_
    show own_Go _ _ _ _ T43 (mkF m 110 #[.val (.long q_1), .second, .val (.int p_2), .val (.int p_3), .val (.int (p_3.toUInt32.toUInt16.toUInt32.toInt32)), .val (.ref b1), .val (.int (1 : Int32)), .val (.long v51), .second] [(.int (lcmpW v51 q_1))])
    have hc52 : v51 = q_1 := own_t0_3 q_1 v51 hdv51
    refine own_go (fun _ k => XS.ifYes X43.here hx rfl (pc0 := 110) (pc' := 115) rfl (hb hby at_110) rfl (Jvm.Free.XT.ll_eq_t hc52) (by decide) (by decide) k) ?_
    show own_Go _ _ _ _ T43 (mkF m 115 #[.val (.long q_1), .second, .val (.int p_2), .val (.int p_3), .val (.int (p_3.toUInt32.toUInt16.toUInt32.toInt32)), .val (.ref b1), .val (.int (1 : Int32)), .val (.long v51), .second] [])
    refine own_go (fun _ k => XS.iload X43.here hx rfl (hb hby at_115) rfl k) ?_
    show own_Go _ _ _ _ T43 (mkF m 117 #[.val (.long q_1), .second, .val (.int p_2), .val (.int p_3), .val (.int (p_3.toUInt32.toUInt16.toUInt32.toInt32)), .val (.ref b1), .val (.int (1 : Int32)), .val (.long v51), .second] [(.int (1 : Int32))])
    have hc53 : 0 < (1 : Int32) := by decide
    refine own_go (fun _ k => XS.ifNo X43.here hx rfl (hb hby at_117) rfl (Jvm.Free.XT.i0_le_f hc53) k) ?_
    show own_Go _ _ _ _ T43 (mkF m 120 #[.val (.long q_1), .second, .val (.int p_2), .val (.int p_3), .val (.int (p_3.toUInt32.toUInt16.toUInt32.toInt32)), .val (.ref b1), .val (.int (1 : Int32)), .val (.long v51), .second] [])
    refine own_go (fun _ k => XS.aload X43.here hx rfl (hb hby at_120) rfl rfl k) ?_
    show own_Go _ _ _ _ T43 (mkF m 122 #[.val (.long q_1), .second, .val (.int p_2), .val (.int p_3), .val (.int (p_3.toUInt32.toUInt16.toUInt32.toInt32)), .val (.ref b1), .val (.int (1 : Int32)), .val (.long v51), .second] [(.ref b1)])
    refine own_go (fun _ k => XS.iconst X43.here hx rfl (hb hby at_122) k) ?_
    show own_Go _ _ _ _ T43 (mkF m 123 #[.val (.long q_1), .second, .val (.int p_2), .val (.int p_3), .val (.int (p_3.toUInt32.toUInt16.toUInt32.toInt32)), .val (.ref b1), .val (.int (1 : Int32)), .val (.long v51), .second] [(.int (0 : Int32)), (.ref b1)])
    obtain ⟨q54, c54, R54, s54, t54⟩ := id f44
    have hin54 : ¬ ((0 : Int32) < 0 ∨ c54.slots.size ≤ ((0 : Int32)).toNatClampNeg) := inb_of s54 ⟨by decide, by decide⟩
    have u54 : c54.slots[((0 : Int32)).toNatClampNeg]? = some (.int (p_3.toUInt32.toUInt16.toUInt32.toInt32)) := own_at (k := 0) t54 s54 hin54 (by decide) (rfl)
    refine own_go (fun _ k => X43.caload hx (j := (0 : Int32)) (v := (.int (p_3.toUInt32.toUInt16.toUInt32.toInt32))) R54.1 (State.isArrayOf_alike hZ.alike R54.2.1) R54.2.2 hin54 u54 (g := (mkF m 123 #[.val (.long q_1), .second, .val (.int p_2), .val (.int p_3), .val (.int (p_3.toUInt32.toUInt16.toUInt32.toInt32)), .val (.ref b1), .val (.int (1 : Int32)), .val (.long v51), .second] [(.int (0 : Int32)), (.ref b1)])) rfl rfl (hb hby at_123) _ k) ?_
    show own_Go _ _ _ _ T43 (mkF m 124 #[.val (.long q_1), .second, .val (.int p_2), .val (.int p_3), .val (.int (p_3.toUInt32.toUInt16.toUInt32.toInt32)), .val (.ref b1), .val (.int (1 : Int32)), .val (.long v51), .second] [(.int (p_3.toUInt32.toUInt16.toUInt32.toInt32))])
    refine own_go (fun _ k => XS.iload X43.here hx rfl (hb hby at_124) rfl k) ?_
    show own_Go _ _ _ _ T43 (mkF m 126 #[.val (.long q_1), .second, .val (.int p_2), .val (.int p_3), .val (.int (p_3.toUInt32.toUInt16.toUInt32.toInt32)), .val (.ref b1), .val (.int (1 : Int32)), .val (.long v51), .second] [(.int (p_3.toUInt32.toUInt16.toUInt32.toInt32)), (.int (p_3.toUInt32.toUInt16.toUInt32.toInt32))])
    have hc55 : (p_3.toUInt32.toUInt16.toUInt32.toInt32) = (p_3.toUInt32.toUInt16.toUInt32.toInt32) := rfl
    refine own_go (fun _ k => XS.icmpYes X43.here hx rfl (pc0 := 126) (pc' := 131) rfl (hb hby at_126) rfl (Jvm.Free.XT.ii_eq_t hc55) (by decide) (by decide) k) ?_
    show own_Go _ _ _ _ T43 (mkF m 131 #[.val (.long q_1), .second, .val (.int p_2), .val (.int p_3), .val (.int (p_3.toUInt32.toUInt16.toUInt32.toInt32)), .val (.ref b1), .val (.int (1 : Int32)), .val (.long v51), .second] [])
    refine own_go (fun _ k => XS.iload X43.here hx rfl (hb hby at_131) rfl k) ?_
    show own_Go _ _ _ _ T43 (mkF m 133 #[.val (.long q_1), .second, .val (.int p_2), .val (.int p_3), .val (.int (p_3.toUInt32.toUInt16.toUInt32.toInt32)), .val (.ref b1), .val (.int (1 : Int32)), .val (.long v51), .second] [(.int (1 : Int32))])
    refine own_go (fun _ k => XS.iconst X43.here hx rfl (hb hby at_133) k) ?_
    show own_Go _ _ _ _ T43 (mkF m 134 #[.val (.long q_1), .second, .val (.int p_2), .val (.int p_3), .val (.int (p_3.toUInt32.toUInt16.toUInt32.toInt32)), .val (.ref b1), .val (.int (1 : Int32)), .val (.long v51), .second] [(.int (1 : Int32)), (.int (1 : Int32))])
    have hc56 : ¬ ((1 : Int32) < (1 : Int32)) := by decide
    refine own_go (fun _ k => XS.icmpYes X43.here hx rfl (pc0 := 134) (pc' := 148) rfl (hb hby at_134) rfl (Jvm.Free.XT.ii_le_t hc56) (by decide) (by decide) k) ?_
    show own_Go _ _ _ _ T43 (mkF m 148 #[.val (.long q_1), .second, .val (.int p_2), .val (.int p_3), .val (.int (p_3.toUInt32.toUInt16.toUInt32.toInt32)), .val (.ref b1), .val (.int (1 : Int32)), .val (.long v51), .second] [])
    refine own_go (fun _ k => XS.iload X43.here hx rfl (hb hby at_148) rfl k) ?_
    show own_Go _ _ _ _ T43 (mkF m 150 #[.val (.long q_1), .second, .val (.int p_2), .val (.int p_3), .val (.int (p_3.toUInt32.toUInt16.toUInt32.toInt32)), .val (.ref b1), .val (.int (1 : Int32)), .val (.long v51), .second] [(.int (1 : Int32))])
    have hc57 : ¬ ((1 : Int32) = 0) := by decide
    refine own_go (fun _ k => XS.ifYes X43.here hx rfl (pc0 := 150) (pc' := 164) rfl (hb hby at_150) rfl (Jvm.Free.XT.i0_ne_t hc57) (by decide) (by decide) k) ?_
    show own_Go _ _ _ _ T43 (mkF m 164 #[.val (.long q_1), .second, .val (.int p_2), .val (.int p_3), .val (.int (p_3.toUInt32.toUInt16.toUInt32.toInt32)), .val (.ref b1), .val (.int (1 : Int32)), .val (.long v51), .second] [])
    refine own_go (fun _ k => XS.iload X43.here hx rfl (hb hby at_164) rfl k) ?_
    show own_Go _ _ _ _ T43 (mkF m 166 #[.val (.long q_1), .second, .val (.int p_2), .val (.int p_3), .val (.int (p_3.toUInt32.toUInt16.toUInt32.toInt32)), .val (.ref b1), .val (.int (1 : Int32)), .val (.long v51), .second] [(.int (1 : Int32))])
    refine own_go (fun _ k => XS.iconst X43.here hx rfl (hb hby at_166) k) ?_
    show own_Go _ _ _ _ T43 (mkF m 167 #[.val (.long q_1), .second, .val (.int p_2), .val (.int p_3), .val (.int (p_3.toUInt32.toUInt16.toUInt32.toInt32)), .val (.ref b1), .val (.int (1 : Int32)), .val (.long v51), .second] [(.int (2 : Int32)), (.int (1 : Int32))])
    have hc58 : (1 : Int32) < (2 : Int32) := by decide
    refine own_go (fun _ k => XS.icmpNo X43.here hx rfl (hb hby at_167) rfl (Jvm.Free.XT.ii_ge_f hc58) k) ?_
    show own_Go _ _ _ _ T43 (mkF m 170 #[.val (.long q_1), .second, .val (.int p_2), .val (.int p_3), .val (.int (p_3.toUInt32.toUInt16.toUInt32.toInt32)), .val (.ref b1), .val (.int (1 : Int32)), .val (.long v51), .second] [])
    refine own_go (fun _ k => XS.aload X43.here hx rfl (hb hby at_170) rfl rfl k) ?_
    show own_Go _ _ _ _ T43 (mkF m 172 #[.val (.long q_1), .second, .val (.int p_2), .val (.int p_3), .val (.int (p_3.toUInt32.toUInt16.toUInt32.toInt32)), .val (.ref b1), .val (.int (1 : Int32)), .val (.long v51), .second] [(.ref b1)])
    refine own_go (fun _ k => XS.iconst X43.here hx rfl (hb hby at_172) k) ?_
    show own_Go _ _ _ _ T43 (mkF m 173 #[.val (.long q_1), .second, .val (.int p_2), .val (.int p_3), .val (.int (p_3.toUInt32.toUInt16.toUInt32.toInt32)), .val (.ref b1), .val (.int (1 : Int32)), .val (.long v51), .second] [(.int (5 : Int32)), (.ref b1)])
    obtain ⟨q59, c59, R59, s59, t59⟩ := id f44
    have hin59 : ¬ ((5 : Int32) < 0 ∨ c59.slots.size ≤ ((5 : Int32)).toNatClampNeg) := inb_of s59 ⟨by decide, by decide⟩
    have u59 : c59.slots[((5 : Int32)).toNatClampNeg]? = some (.int (p_3.toUInt32.toUInt16.toUInt32.toInt32)) := own_at (k := 5) t59 s59 hin59 (by decide) (rfl)
    refine own_go (fun _ k => X43.caload hx (j := (5 : Int32)) (v := (.int (p_3.toUInt32.toUInt16.toUInt32.toInt32))) R59.1 (State.isArrayOf_alike hZ.alike R59.2.1) R59.2.2 hin59 u59 (g := (mkF m 173 #[.val (.long q_1), .second, .val (.int p_2), .val (.int p_3), .val (.int (p_3.toUInt32.toUInt16.toUInt32.toInt32)), .val (.ref b1), .val (.int (1 : Int32)), .val (.long v51), .second] [(.int (5 : Int32)), (.ref b1)])) rfl rfl (hb hby at_173) _ k) ?_
    show own_Go _ _ _ _ T43 (mkF m 174 #[.val (.long q_1), .second, .val (.int p_2), .val (.int p_3), .val (.int (p_3.toUInt32.toUInt16.toUInt32.toInt32)), .val (.ref b1), .val (.int (1 : Int32)), .val (.long v51), .second] [(.int (p_3.toUInt32.toUInt16.toUInt32.toInt32))])
    refine own_go (fun _ k => XS.iload X43.here hx rfl (hb hby at_174) rfl k) ?_
    show own_Go _ _ _ _ T43 (mkF m 176 #[.val (.long q_1), .second, .val (.int p_2), .val (.int p_3), .val (.int (p_3.toUInt32.toUInt16.toUInt32.toInt32)), .val (.ref b1), .val (.int (1 : Int32)), .val (.long v51), .second] [(.int (p_3.toUInt32.toUInt16.toUInt32.toInt32)), (.int (p_3.toUInt32.toUInt16.toUInt32.toInt32))])
    have hc60 : (p_3.toUInt32.toUInt16.toUInt32.toInt32) = (p_3.toUInt32.toUInt16.toUInt32.toInt32) := rfl
    refine own_go (fun _ k => XS.icmpYes X43.here hx rfl (pc0 := 176) (pc' := 181) rfl (hb hby at_176) rfl (Jvm.Free.XT.ii_eq_t hc60) (by decide) (by decide) k) ?_
    show own_Go _ _ _ _ T43 (mkF m 181 #[.val (.long q_1), .second, .val (.int p_2), .val (.int p_3), .val (.int (p_3.toUInt32.toUInt16.toUInt32.toInt32)), .val (.ref b1), .val (.int (1 : Int32)), .val (.long v51), .second] [])
    refine own_go (fun _ k => XS.iconst X43.here hx rfl (hb hby at_181) k) ?_
    show own_Go _ _ _ _ T43 (mkF m 182 #[.val (.long q_1), .second, .val (.int p_2), .val (.int p_3), .val (.int (p_3.toUInt32.toUInt16.toUInt32.toInt32)), .val (.ref b1), .val (.int (1 : Int32)), .val (.long v51), .second] [(.int (1 : Int32))])
    obtain ⟨fs, hr, hrun, hended, hW, hsame⟩ := X43.leave (v := some (.int (1 : Int32))) (fun h => by rw [Bd.returns] at h; cases h)
    refine ⟨_, _, retOut X43 hx Bd.returns rfl (Or.inl ⟨rfl, Or.inr (Or.inl rfl), _, rfl⟩) (hb hby at_182) hr, hrun, hended, _, _, rfl, ?_, ⟨_, rfl⟩, hW, hsame.mono (by rw [y43]; decide) (by rw [z43]; decide)⟩
    exact ⟨rfl, N43⟩
  · subst hs23
    show own_Go _ _ _ _ T19 (mkF m 54 #[.val (.long q_1), .second, .val (.int p_2), .val (.int p_3), .val (.int (p_3.toUInt32.toUInt16.toUInt32.toInt32)), .val (.ref b1), .val (.int (2 : Int32)), .unset, .unset] [])
    refine own_go (fun _ k => XS.lloadN X19.here hx rfl (hb hby at_54) rfl k) ?_
    show own_Go _ _ _ _ T19 (mkF m 55 #[.val (.long q_1), .second, .val (.int p_2), .val (.int p_3), .val (.int (p_3.toUInt32.toUInt16.toUInt32.toInt32)), .val (.ref b1), .val (.int (2 : Int32)), .unset, .unset] [(.long q_1)])
    refine own_go (fun _ k => XS.aload X19.here hx rfl (hb hby at_55) rfl rfl k) ?_
    show own_Go _ _ _ _ T19 (mkF m 57 #[.val (.long q_1), .second, .val (.int p_2), .val (.int p_3), .val (.int (p_3.toUInt32.toUInt16.toUInt32.toInt32)), .val (.ref b1), .val (.int (2 : Int32)), .unset, .unset] [(.ref b1), (.long q_1)])
    refine own_go (fun _ k => XS.iload X19.here hx rfl (hb hby at_57) rfl k) ?_
    show own_Go _ _ _ _ T19 (mkF m 59 #[.val (.long q_1), .second, .val (.int p_2), .val (.int p_3), .val (.int (p_3.toUInt32.toUInt16.toUInt32.toInt32)), .val (.ref b1), .val (.int (2 : Int32)), .unset, .unset] [(.int (2 : Int32)), (.ref b1), (.long q_1)])
    obtain ⟨_, _, ⟨T62, L62, k62, n62⟩, -, X62, ⟨Lc62, hQ62, l62, y62, z62⟩, st62⟩ := Jvm.LawKit.callS X19 hx (y := (⟨"com/example/honest_codec/honestcodec/Words", "putLanes", "(J[CI)V"⟩ : MethodName)) hown (mvT hZ (hw _ (List.mem_of_getElem? (i := 2) rfl))) (mvT hZ (hw _ (List.mem_of_getElem? (i := 3) rfl))) (mvT hZ (hw _ (List.mem_of_getElem? (i := 4) rfl))) (mvT hZ (hw _ (List.mem_of_getElem? (i := 5) rfl))) (by decide) (backOf (W := 0) (own_rm1_2 l Z a0 hw [] q_1 b1 (own_upd (own_upd (own_upd (own_upd (own_upd (own_upd (fun _ => (.int (0 : Int32))) 0 (.int (p_3.toUInt32.toUInt16.toUInt32.toInt32))) 1 (.int (p_3.toUInt32.toUInt16.toUInt32.toInt32))) 2 (.int (p_3.toUInt32.toUInt16.toUInt32.toInt32))) 3 (.int (p_3.toUInt32.toUInt16.toUInt32.toInt32))) 4 (.int (p_3.toUInt32.toUInt16.toUInt32.toInt32))) 5 (.int (p_3.toUInt32.toUInt16.toUInt32.toInt32))) h19 n0 (by omega) V19 (by omega)) hZ (hw _ (List.mem_of_getElem? (i := 5) rfl)) (hw _ (List.mem_of_getElem? (i := 4) rfl)) (by decide) (by decide)) (g := (mkF m 59 #[.val (.long q_1), .second, .val (.int p_2), .val (.int p_3), .val (.int (p_3.toUInt32.toUInt16.toUInt32.toInt32)), .val (.ref b1), .val (.int (2 : Int32)), .unset, .unset] [(.int (2 : Int32)), (.ref b1), (.long q_1)])) rfl (by rw [hml]; rfl) (argsL := [(.long q_1), (.ref b1), (.int (2 : Int32))]) (rest := []) (lenOf own_pd0 rfl) rfl (by show 2 * 0 + _ ≤ _; exact Nat.le_of_eq rfl) (hb hby at_59) (fun _ _ => ⟨rfl, e19, (by decide : 1 + 0 ≤ _), (by decide : 6 + 0 ≤ _)⟩)
    dsimp only [Pt.U, Pt.locs, Pt.cells, Pt.slots] at X62 l62 y62 z62 st62 hQ62
    have y62 : k62 = 1 := y62
    have z62 : n62 = 6 := z62
    obtain ⟨rfl, N62q, K62q, f63⟩ := hQ62
    have N62 : Fr n0 L62 := by rw [l62]; exact Fr.app N19 N62q
    have z64 := K62q.1
    have z65 := own_lt f63.lt
    refine own_go (fun _ k => st62 _ k) ?_
    show own_Go _ _ _ _ T62 (mkF m 62 #[.val (.long q_1), .second, .val (.int p_2), .val (.int p_3), .val (.int (p_3.toUInt32.toUInt16.toUInt32.toInt32)), .val (.ref b1), .val (.int (2 : Int32)), .unset, .unset] [])
    refine own_go (fun _ k => XS.aload X62.here hx rfl (hb hby at_62) rfl rfl k) ?_
    show own_Go _ _ _ _ T62 (mkF m 64 #[.val (.long q_1), .second, .val (.int p_2), .val (.int p_3), .val (.int (p_3.toUInt32.toUInt16.toUInt32.toInt32)), .val (.ref b1), .val (.int (2 : Int32)), .unset, .unset] [(.ref b1)])
    refine own_go (fun _ k => XS.iload X62.here hx rfl (hb hby at_64) rfl k) ?_
    show own_Go _ _ _ _ T62 (mkF m 66 #[.val (.long q_1), .second, .val (.int p_2), .val (.int p_3), .val (.int (p_3.toUInt32.toUInt16.toUInt32.toInt32)), .val (.ref b1), .val (.int (2 : Int32)), .unset, .unset] [(.int (2 : Int32)), (.ref b1)])
    obtain ⟨q66, c66, R66, s66, t66⟩ := id f63
    have hin66 : ¬ ((2 : Int32) < 0 ∨ c66.slots.size ≤ ((2 : Int32)).toNatClampNeg) := inb_of s66 ⟨by decide, by decide⟩
    have u66 : c66.slots[((2 : Int32)).toNatClampNeg]? = some (.int ((q_1.toInt32).toUInt32.toUInt16.toUInt32.toInt32)) := own_at (k := 2) t66 s66 hin66 (by decide) (rfl)
    refine own_go (fun _ k => X62.caload hx (j := (2 : Int32)) (v := (.int ((q_1.toInt32).toUInt32.toUInt16.toUInt32.toInt32))) R66.1 (State.isArrayOf_alike hZ.alike R66.2.1) R66.2.2 hin66 u66 (g := (mkF m 66 #[.val (.long q_1), .second, .val (.int p_2), .val (.int p_3), .val (.int (p_3.toUInt32.toUInt16.toUInt32.toInt32)), .val (.ref b1), .val (.int (2 : Int32)), .unset, .unset] [(.int (2 : Int32)), (.ref b1)])) rfl rfl (hb hby at_66) _ k) ?_
    show own_Go _ _ _ _ T62 (mkF m 67 #[.val (.long q_1), .second, .val (.int p_2), .val (.int p_3), .val (.int (p_3.toUInt32.toUInt16.toUInt32.toInt32)), .val (.ref b1), .val (.int (2 : Int32)), .unset, .unset] [(.int ((q_1.toInt32).toUInt32.toUInt16.toUInt32.toInt32))])
    refine own_go (fun _ k => XS.i2l X62.here hx rfl (hb hby at_67) rfl k) ?_
    show own_Go _ _ _ _ T62 (mkF m 68 #[.val (.long q_1), .second, .val (.int p_2), .val (.int p_3), .val (.int (p_3.toUInt32.toUInt16.toUInt32.toInt32)), .val (.ref b1), .val (.int (2 : Int32)), .unset, .unset] [(.long (((q_1.toInt32).toUInt32.toUInt16.toUInt32.toInt32).toInt64))])
    refine own_go (fun _ k => XS.aload X62.here hx rfl (hb hby at_68) rfl rfl k) ?_
    show own_Go _ _ _ _ T62 (mkF m 70 #[.val (.long q_1), .second, .val (.int p_2), .val (.int p_3), .val (.int (p_3.toUInt32.toUInt16.toUInt32.toInt32)), .val (.ref b1), .val (.int (2 : Int32)), .unset, .unset] [(.ref b1), (.long (((q_1.toInt32).toUInt32.toUInt16.toUInt32.toInt32).toInt64))])
    refine own_go (fun _ k => XS.iload X62.here hx rfl (hb hby at_70) rfl k) ?_
    show own_Go _ _ _ _ T62 (mkF m 72 #[.val (.long q_1), .second, .val (.int p_2), .val (.int p_3), .val (.int (p_3.toUInt32.toUInt16.toUInt32.toInt32)), .val (.ref b1), .val (.int (2 : Int32)), .unset, .unset] [(.int (2 : Int32)), (.ref b1), (.long (((q_1.toInt32).toUInt32.toUInt16.toUInt32.toInt32).toInt64))])
    refine own_go (fun _ k => XS.iconst X62.here hx rfl (hb hby at_72) k) ?_
    show own_Go _ _ _ _ T62 (mkF m 73 #[.val (.long q_1), .second, .val (.int p_2), .val (.int p_3), .val (.int (p_3.toUInt32.toUInt16.toUInt32.toInt32)), .val (.ref b1), .val (.int (2 : Int32)), .unset, .unset] [(.int (1 : Int32)), (.int (2 : Int32)), (.ref b1), (.long (((q_1.toInt32).toUInt32.toUInt16.toUInt32.toInt32).toInt64))])
    refine own_go (fun _ k => XS.iadd X62.here hx rfl (hb hby at_73) rfl k) ?_
    show own_Go _ _ _ _ T62 (mkF m 74 #[.val (.long q_1), .second, .val (.int p_2), .val (.int p_3), .val (.int (p_3.toUInt32.toUInt16.toUInt32.toInt32)), .val (.ref b1), .val (.int (2 : Int32)), .unset, .unset] [(.int (3 : Int32)), (.ref b1), (.long (((q_1.toInt32).toUInt32.toUInt16.toUInt32.toInt32).toInt64))])
    obtain ⟨q67, c67, R67, s67, t67⟩ := id f63
    have hin67 : ¬ ((3 : Int32) < 0 ∨ c67.slots.size ≤ ((3 : Int32)).toNatClampNeg) := inb_of s67 ⟨by decide, by decide⟩
    have u67 : c67.slots[((3 : Int32)).toNatClampNeg]? = some (.int ((((q_1.toUInt64 >>> ((16 : Int32) &&& 0x3f).toInt64.toUInt64).toInt64).toInt32).toUInt32.toUInt16.toUInt32.toInt32)) := own_at (k := 3) t67 s67 hin67 (by decide) (rfl)
    refine own_go (fun _ k => X62.caload hx (j := (3 : Int32)) (v := (.int ((((q_1.toUInt64 >>> ((16 : Int32) &&& 0x3f).toInt64.toUInt64).toInt64).toInt32).toUInt32.toUInt16.toUInt32.toInt32))) R67.1 (State.isArrayOf_alike hZ.alike R67.2.1) R67.2.2 hin67 u67 (g := (mkF m 74 #[.val (.long q_1), .second, .val (.int p_2), .val (.int p_3), .val (.int (p_3.toUInt32.toUInt16.toUInt32.toInt32)), .val (.ref b1), .val (.int (2 : Int32)), .unset, .unset] [(.int (3 : Int32)), (.ref b1), (.long (((q_1.toInt32).toUInt32.toUInt16.toUInt32.toInt32).toInt64))])) rfl rfl (hb hby at_74) _ k) ?_
    show own_Go _ _ _ _ T62 (mkF m 75 #[.val (.long q_1), .second, .val (.int p_2), .val (.int p_3), .val (.int (p_3.toUInt32.toUInt16.toUInt32.toInt32)), .val (.ref b1), .val (.int (2 : Int32)), .unset, .unset] [(.int ((((q_1.toUInt64 >>> ((16 : Int32) &&& 0x3f).toInt64.toUInt64).toInt64).toInt32).toUInt32.toUInt16.toUInt32.toInt32)), (.long (((q_1.toInt32).toUInt32.toUInt16.toUInt32.toInt32).toInt64))])
    refine own_go (fun _ k => XS.i2l X62.here hx rfl (hb hby at_75) rfl k) ?_
    show own_Go _ _ _ _ T62 (mkF m 76 #[.val (.long q_1), .second, .val (.int p_2), .val (.int p_3), .val (.int (p_3.toUInt32.toUInt16.toUInt32.toInt32)), .val (.ref b1), .val (.int (2 : Int32)), .unset, .unset] [(.long (((((q_1.toUInt64 >>> ((16 : Int32) &&& 0x3f).toInt64.toUInt64).toInt64).toInt32).toUInt32.toUInt16.toUInt32.toInt32).toInt64)), (.long (((q_1.toInt32).toUInt32.toUInt16.toUInt32.toInt32).toInt64))])
    refine own_go (fun _ k => XS.bipush X62.here hx rfl (hb hby at_76) k) ?_
    show own_Go _ _ _ _ T62 (mkF m 78 #[.val (.long q_1), .second, .val (.int p_2), .val (.int p_3), .val (.int (p_3.toUInt32.toUInt16.toUInt32.toInt32)), .val (.ref b1), .val (.int (2 : Int32)), .unset, .unset] [(.int (16 : Int32)), (.long (((((q_1.toUInt64 >>> ((16 : Int32) &&& 0x3f).toInt64.toUInt64).toInt64).toInt32).toUInt32.toUInt16.toUInt32.toInt32).toInt64)), (.long (((q_1.toInt32).toUInt32.toUInt16.toUInt32.toInt32).toInt64))])
    refine own_go (fun _ k => XS.lshl X62.here hx rfl (hb hby at_78) rfl k) ?_
    show own_Go _ _ _ _ T62 (mkF m 79 #[.val (.long q_1), .second, .val (.int p_2), .val (.int p_3), .val (.int (p_3.toUInt32.toUInt16.toUInt32.toInt32)), .val (.ref b1), .val (.int (2 : Int32)), .unset, .unset] [(.long ((((((q_1.toUInt64 >>> ((16 : Int32) &&& 0x3f).toInt64.toUInt64).toInt64).toInt32).toUInt32.toUInt16.toUInt32.toInt32).toInt64) <<< ((16 : Int32) &&& 0x3f).toInt64)), (.long (((q_1.toInt32).toUInt32.toUInt16.toUInt32.toInt32).toInt64))])
    refine own_go (fun _ k => XS.lor X62.here hx rfl (hb hby at_79) rfl k) ?_
    show own_Go _ _ _ _ T62 (mkF m 80 #[.val (.long q_1), .second, .val (.int p_2), .val (.int p_3), .val (.int (p_3.toUInt32.toUInt16.toUInt32.toInt32)), .val (.ref b1), .val (.int (2 : Int32)), .unset, .unset] [(.long ((((q_1.toInt32).toUInt32.toUInt16.toUInt32.toInt32).toInt64) ||| ((((((q_1.toUInt64 >>> ((16 : Int32) &&& 0x3f).toInt64.toUInt64).toInt64).toInt32).toUInt32.toUInt16.toUInt32.toInt32).toInt64) <<< ((16 : Int32) &&& 0x3f).toInt64)))])
    refine own_go (fun _ k => XS.aload X62.here hx rfl (hb hby at_80) rfl rfl k) ?_
    show own_Go _ _ _ _ T62 (mkF m 82 #[.val (.long q_1), .second, .val (.int p_2), .val (.int p_3), .val (.int (p_3.toUInt32.toUInt16.toUInt32.toInt32)), .val (.ref b1), .val (.int (2 : Int32)), .unset, .unset] [(.ref b1), (.long ((((q_1.toInt32).toUInt32.toUInt16.toUInt32.toInt32).toInt64) ||| ((((((q_1.toUInt64 >>> ((16 : Int32) &&& 0x3f).toInt64.toUInt64).toInt64).toInt32).toUInt32.toUInt16.toUInt32.toInt32).toInt64) <<< ((16 : Int32) &&& 0x3f).toInt64)))])
    refine own_go (fun _ k => XS.iload X62.here hx rfl (hb hby at_82) rfl k) ?_
    show own_Go _ _ _ _ T62 (mkF m 84 #[.val (.long q_1), .second, .val (.int p_2), .val (.int p_3), .val (.int (p_3.toUInt32.toUInt16.toUInt32.toInt32)), .val (.ref b1), .val (.int (2 : Int32)), .unset, .unset] [(.int (2 : Int32)), (.ref b1), (.long ((((q_1.toInt32).toUInt32.toUInt16.toUInt32.toInt32).toInt64) ||| ((((((q_1.toUInt64 >>> ((16 : Int32) &&& 0x3f).toInt64.toUInt64).toInt64).toInt32).toUInt32.toUInt16.toUInt32.toInt32).toInt64) <<< ((16 : Int32) &&& 0x3f).toInt64)))])
    refine own_go (fun _ k => XS.iconst X62.here hx rfl (hb hby at_84) k) ?_
    show own_Go _ _ _ _ T62 (mkF m 85 #[.val (.long q_1), .second, .val (.int p_2), .val (.int p_3), .val (.int (p_3.toUInt32.toUInt16.toUInt32.toInt32)), .val (.ref b1), .val (.int (2 : Int32)), .unset, .unset] [(.int (2 : Int32)), (.int (2 : Int32)), (.ref b1), (.long ((((q_1.toInt32).toUInt32.toUInt16.toUInt32.toInt32).toInt64) ||| ((((((q_1.toUInt64 >>> ((16 : Int32) &&& 0x3f).toInt64.toUInt64).toInt64).toInt32).toUInt32.toUInt16.toUInt32.toInt32).toInt64) <<< ((16 : Int32) &&& 0x3f).toInt64)))])
    refine own_go (fun _ k => XS.iadd X62.here hx rfl (hb hby at_85) rfl k) ?_
    show own_Go _ _ _ _ T62 (mkF m 86 #[.val (.long q_1), .second, .val (.int p_2), .val (.int p_3), .val (.int (p_3.toUInt32.toUInt16.toUInt32.toInt32)), .val (.ref b1), .val (.int (2 : Int32)), .unset, .unset] [(.int (4 : Int32)), (.ref b1), (.long ((((q_1.toInt32).toUInt32.toUInt16.toUInt32.toInt32).toInt64) ||| ((((((q_1.toUInt64 >>> ((16 : Int32) &&& 0x3f).toInt64.toUInt64).toInt64).toInt32).toUInt32.toUInt16.toUInt32.toInt32).toInt64) <<< ((16 : Int32) &&& 0x3f).toInt64)))])
    obtain ⟨q68, c68, R68, s68, t68⟩ := id f63
    have hin68 : ¬ ((4 : Int32) < 0 ∨ c68.slots.size ≤ ((4 : Int32)).toNatClampNeg) := inb_of s68 ⟨by decide, by decide⟩
    have u68 : c68.slots[((4 : Int32)).toNatClampNeg]? = some (.int ((((q_1.toUInt64 >>> ((32 : Int32) &&& 0x3f).toInt64.toUInt64).toInt64).toInt32).toUInt32.toUInt16.toUInt32.toInt32)) := own_at (k := 4) t68 s68 hin68 (by decide) (rfl)
    refine own_go (fun _ k => X62.caload hx (j := (4 : Int32)) (v := (.int ((((q_1.toUInt64 >>> ((32 : Int32) &&& 0x3f).toInt64.toUInt64).toInt64).toInt32).toUInt32.toUInt16.toUInt32.toInt32))) R68.1 (State.isArrayOf_alike hZ.alike R68.2.1) R68.2.2 hin68 u68 (g := (mkF m 86 #[.val (.long q_1), .second, .val (.int p_2), .val (.int p_3), .val (.int (p_3.toUInt32.toUInt16.toUInt32.toInt32)), .val (.ref b1), .val (.int (2 : Int32)), .unset, .unset] [(.int (4 : Int32)), (.ref b1), (.long ((((q_1.toInt32).toUInt32.toUInt16.toUInt32.toInt32).toInt64) ||| ((((((q_1.toUInt64 >>> ((16 : Int32) &&& 0x3f).toInt64.toUInt64).toInt64).toInt32).toUInt32.toUInt16.toUInt32.toInt32).toInt64) <<< ((16 : Int32) &&& 0x3f).toInt64)))])) rfl rfl (hb hby at_86) _ k) ?_
    show own_Go _ _ _ _ T62 (mkF m 87 #[.val (.long q_1), .second, .val (.int p_2), .val (.int p_3), .val (.int (p_3.toUInt32.toUInt16.toUInt32.toInt32)), .val (.ref b1), .val (.int (2 : Int32)), .unset, .unset] [(.int ((((q_1.toUInt64 >>> ((32 : Int32) &&& 0x3f).toInt64.toUInt64).toInt64).toInt32).toUInt32.toUInt16.toUInt32.toInt32)), (.long ((((q_1.toInt32).toUInt32.toUInt16.toUInt32.toInt32).toInt64) ||| ((((((q_1.toUInt64 >>> ((16 : Int32) &&& 0x3f).toInt64.toUInt64).toInt64).toInt32).toUInt32.toUInt16.toUInt32.toInt32).toInt64) <<< ((16 : Int32) &&& 0x3f).toInt64)))])
    refine own_go (fun _ k => XS.i2l X62.here hx rfl (hb hby at_87) rfl k) ?_
    show own_Go _ _ _ _ T62 (mkF m 88 #[.val (.long q_1), .second, .val (.int p_2), .val (.int p_3), .val (.int (p_3.toUInt32.toUInt16.toUInt32.toInt32)), .val (.ref b1), .val (.int (2 : Int32)), .unset, .unset] [(.long (((((q_1.toUInt64 >>> ((32 : Int32) &&& 0x3f).toInt64.toUInt64).toInt64).toInt32).toUInt32.toUInt16.toUInt32.toInt32).toInt64)), (.long ((((q_1.toInt32).toUInt32.toUInt16.toUInt32.toInt32).toInt64) ||| ((((((q_1.toUInt64 >>> ((16 : Int32) &&& 0x3f).toInt64.toUInt64).toInt64).toInt32).toUInt32.toUInt16.toUInt32.toInt32).toInt64) <<< ((16 : Int32) &&& 0x3f).toInt64)))])
    refine own_go (fun _ k => XS.bipush X62.here hx rfl (hb hby at_88) k) ?_
    show own_Go _ _ _ _ T62 (mkF m 90 #[.val (.long q_1), .second, .val (.int p_2), .val (.int p_3), .val (.int (p_3.toUInt32.toUInt16.toUInt32.toInt32)), .val (.ref b1), .val (.int (2 : Int32)), .unset, .unset] [(.int (32 : Int32)), (.long (((((q_1.toUInt64 >>> ((32 : Int32) &&& 0x3f).toInt64.toUInt64).toInt64).toInt32).toUInt32.toUInt16.toUInt32.toInt32).toInt64)), (.long ((((q_1.toInt32).toUInt32.toUInt16.toUInt32.toInt32).toInt64) ||| ((((((q_1.toUInt64 >>> ((16 : Int32) &&& 0x3f).toInt64.toUInt64).toInt64).toInt32).toUInt32.toUInt16.toUInt32.toInt32).toInt64) <<< ((16 : Int32) &&& 0x3f).toInt64)))])
    refine own_go (fun _ k => XS.lshl X62.here hx rfl (hb hby at_90) rfl k) ?_
    show own_Go _ _ _ _ T62 (mkF m 91 #[.val (.long q_1), .second, .val (.int p_2), .val (.int p_3), .val (.int (p_3.toUInt32.toUInt16.toUInt32.toInt32)), .val (.ref b1), .val (.int (2 : Int32)), .unset, .unset] [(.long ((((((q_1.toUInt64 >>> ((32 : Int32) &&& 0x3f).toInt64.toUInt64).toInt64).toInt32).toUInt32.toUInt16.toUInt32.toInt32).toInt64) <<< ((32 : Int32) &&& 0x3f).toInt64)), (.long ((((q_1.toInt32).toUInt32.toUInt16.toUInt32.toInt32).toInt64) ||| ((((((q_1.toUInt64 >>> ((16 : Int32) &&& 0x3f).toInt64.toUInt64).toInt64).toInt32).toUInt32.toUInt16.toUInt32.toInt32).toInt64) <<< ((16 : Int32) &&& 0x3f).toInt64)))])
    refine own_go (fun _ k => XS.lor X62.here hx rfl (hb hby at_91) rfl k) ?_
    show own_Go _ _ _ _ T62 (mkF m 92 #[.val (.long q_1), .second, .val (.int p_2), .val (.int p_3), .val (.int (p_3.toUInt32.toUInt16.toUInt32.toInt32)), .val (.ref b1), .val (.int (2 : Int32)), .unset, .unset] [(.long (((((q_1.toInt32).toUInt32.toUInt16.toUInt32.toInt32).toInt64) ||| ((((((q_1.toUInt64 >>> ((16 : Int32) &&& 0x3f).toInt64.toUInt64).toInt64).toInt32).toUInt32.toUInt16.toUInt32.toInt32).toInt64) <<< ((16 : Int32) &&& 0x3f).toInt64)) ||| ((((((q_1.toUInt64 >>> ((32 : Int32) &&& 0x3f).toInt64.toUInt64).toInt64).toInt32).toUInt32.toUInt16.toUInt32.toInt32).toInt64) <<< ((32 : Int32) &&& 0x3f).toInt64)))])
    refine own_go (fun _ k => XS.aload X62.here hx rfl (hb hby at_92) rfl rfl k) ?_
    show own_Go _ _ _ _ T62 (mkF m 94 #[.val (.long q_1), .second, .val (.int p_2), .val (.int p_3), .val (.int (p_3.toUInt32.toUInt16.toUInt32.toInt32)), .val (.ref b1), .val (.int (2 : Int32)), .unset, .unset] [(.ref b1), (.long (((((q_1.toInt32).toUInt32.toUInt16.toUInt32.toInt32).toInt64) ||| ((((((q_1.toUInt64 >>> ((16 : Int32) &&& 0x3f).toInt64.toUInt64).toInt64).toInt32).toUInt32.toUInt16.toUInt32.toInt32).toInt64) <<< ((16 : Int32) &&& 0x3f).toInt64)) ||| ((((((q_1.toUInt64 >>> ((32 : Int32) &&& 0x3f).toInt64.toUInt64).toInt64).toInt32).toUInt32.toUInt16.toUInt32.toInt32).toInt64) <<< ((32 : Int32) &&& 0x3f).toInt64)))])
    refine own_go (fun _ k => XS.iload X62.here hx rfl (hb hby at_94) rfl k) ?_
    show own_Go _ _ _ _ T62 (mkF m 96 #[.val (.long q_1), .second, .val (.int p_2), .val (.int p_3), .val (.int (p_3.toUInt32.toUInt16.toUInt32.toInt32)), .val (.ref b1), .val (.int (2 : Int32)), .unset, .unset] [(.int (2 : Int32)), (.ref b1), (.long (((((q_1.toInt32).toUInt32.toUInt16.toUInt32.toInt32).toInt64) ||| ((((((q_1.toUInt64 >>> ((16 : Int32) &&& 0x3f).toInt64.toUInt64).toInt64).toInt32).toUInt32.toUInt16.toUInt32.toInt32).toInt64) <<< ((16 : Int32) &&& 0x3f).toInt64)) ||| ((((((q_1.toUInt64 >>> ((32 : Int32) &&& 0x3f).toInt64.toUInt64).toInt64).toInt32).toUInt32.toUInt16.toUInt32.toInt32).toInt64) <<< ((32 : Int32) &&& 0x3f).toInt64)))])
    refine own_go (fun _ k => XS.iconst X62.here hx rfl (hb hby at_96) k) ?_
    show own_Go _ _ _ _ T62 (mkF m 97 #[.val (.long q_1), .second, .val (.int p_2), .val (.int p_3), .val (.int (p_3.toUInt32.toUInt16.toUInt32.toInt32)), .val (.ref b1), .val (.int (2 : Int32)), .unset, .unset] [(.int (3 : Int32)), (.int (2 : Int32)), (.ref b1), (.long (((((q_1.toInt32).toUInt32.toUInt16.toUInt32.toInt32).toInt64) ||| ((((((q_1.toUInt64 >>> ((16 : Int32) &&& 0x3f).toInt64.toUInt64).toInt64).toInt32).toUInt32.toUInt16.toUInt32.toInt32).toInt64) <<< ((16 : Int32) &&& 0x3f).toInt64)) ||| ((((((q_1.toUInt64 >>> ((32 : Int32) &&& 0x3f).toInt64.toUInt64).toInt64).toInt32).toUInt32.toUInt16.toUInt32.toInt32).toInt64) <<< ((32 : Int32) &&& 0x3f).toInt64)))])
    refine own_go (fun _ k => XS.iadd X62.here hx rfl (hb hby at_97) rfl k) ?_
    show own_Go _ _ _ _ T62 (mkF m 98 #[.val (.long q_1), .second, .val (.int p_2), .val (.int p_3), .val (.int (p_3.toUInt32.toUInt16.toUInt32.toInt32)), .val (.ref b1), .val (.int (2 : Int32)), .unset, .unset] [(.int (5 : Int32)), (.ref b1), (.long (((((q_1.toInt32).toUInt32.toUInt16.toUInt32.toInt32).toInt64) ||| ((((((q_1.toUInt64 >>> ((16 : Int32) &&& 0x3f).toInt64.toUInt64).toInt64).toInt32).toUInt32.toUInt16.toUInt32.toInt32).toInt64) <<< ((16 : Int32) &&& 0x3f).toInt64)) ||| ((((((q_1.toUInt64 >>> ((32 : Int32) &&& 0x3f).toInt64.toUInt64).toInt64).toInt32).toUInt32.toUInt16.toUInt32.toInt32).toInt64) <<< ((32 : Int32) &&& 0x3f).toInt64)))])
    obtain ⟨q69, c69, R69, s69, t69⟩ := id f63
    have hin69 : ¬ ((5 : Int32) < 0 ∨ c69.slots.size ≤ ((5 : Int32)).toNatClampNeg) := inb_of s69 ⟨by decide, by decide⟩
    have u69 : c69.slots[((5 : Int32)).toNatClampNeg]? = some (.int ((((q_1.toUInt64 >>> ((48 : Int32) &&& 0x3f).toInt64.toUInt64).toInt64).toInt32).toUInt32.toUInt16.toUInt32.toInt32)) := own_at (k := 5) t69 s69 hin69 (by decide) (rfl)
    refine own_go (fun _ k => X62.caload hx (j := (5 : Int32)) (v := (.int ((((q_1.toUInt64 >>> ((48 : Int32) &&& 0x3f).toInt64.toUInt64).toInt64).toInt32).toUInt32.toUInt16.toUInt32.toInt32))) R69.1 (State.isArrayOf_alike hZ.alike R69.2.1) R69.2.2 hin69 u69 (g := (mkF m 98 #[.val (.long q_1), .second, .val (.int p_2), .val (.int p_3), .val (.int (p_3.toUInt32.toUInt16.toUInt32.toInt32)), .val (.ref b1), .val (.int (2 : Int32)), .unset, .unset] [(.int (5 : Int32)), (.ref b1), (.long (((((q_1.toInt32).toUInt32.toUInt16.toUInt32.toInt32).toInt64) ||| ((((((q_1.toUInt64 >>> ((16 : Int32) &&& 0x3f).toInt64.toUInt64).toInt64).toInt32).toUInt32.toUInt16.toUInt32.toInt32).toInt64) <<< ((16 : Int32) &&& 0x3f).toInt64)) ||| ((((((q_1.toUInt64 >>> ((32 : Int32) &&& 0x3f).toInt64.toUInt64).toInt64).toInt32).toUInt32.toUInt16.toUInt32.toInt32).toInt64) <<< ((32 : Int32) &&& 0x3f).toInt64)))])) rfl rfl (hb hby at_98) _ k) ?_
    show own_Go _ _ _ _ T62 (mkF m 99 #[.val (.long q_1), .second, .val (.int p_2), .val (.int p_3), .val (.int (p_3.toUInt32.toUInt16.toUInt32.toInt32)), .val (.ref b1), .val (.int (2 : Int32)), .unset, .unset] [(.int ((((q_1.toUInt64 >>> ((48 : Int32) &&& 0x3f).toInt64.toUInt64).toInt64).toInt32).toUInt32.toUInt16.toUInt32.toInt32)), (.long (((((q_1.toInt32).toUInt32.toUInt16.toUInt32.toInt32).toInt64) ||| ((((((q_1.toUInt64 >>> ((16 : Int32) &&& 0x3f).toInt64.toUInt64).toInt64).toInt32).toUInt32.toUInt16.toUInt32.toInt32).toInt64) <<< ((16 : Int32) &&& 0x3f).toInt64)) ||| ((((((q_1.toUInt64 >>> ((32 : Int32) &&& 0x3f).toInt64.toUInt64).toInt64).toInt32).toUInt32.toUInt16.toUInt32.toInt32).toInt64) <<< ((32 : Int32) &&& 0x3f).toInt64)))])
    refine own_go (fun _ k => XS.i2l X62.here hx rfl (hb hby at_99) rfl k) ?_
    show own_Go _ _ _ _ T62 (mkF m 100 #[.val (.long q_1), .second, .val (.int p_2), .val (.int p_3), .val (.int (p_3.toUInt32.toUInt16.toUInt32.toInt32)), .val (.ref b1), .val (.int (2 : Int32)), .unset, .unset] [(.long (((((q_1.toUInt64 >>> ((48 : Int32) &&& 0x3f).toInt64.toUInt64).toInt64).toInt32).toUInt32.toUInt16.toUInt32.toInt32).toInt64)), (.long (((((q_1.toInt32).toUInt32.toUInt16.toUInt32.toInt32).toInt64) ||| ((((((q_1.toUInt64 >>> ((16 : Int32) &&& 0x3f).toInt64.toUInt64).toInt64).toInt32).toUInt32.toUInt16.toUInt32.toInt32).toInt64) <<< ((16 : Int32) &&& 0x3f).toInt64)) ||| ((((((q_1.toUInt64 >>> ((32 : Int32) &&& 0x3f).toInt64.toUInt64).toInt64).toInt32).toUInt32.toUInt16.toUInt32.toInt32).toInt64) <<< ((32 : Int32) &&& 0x3f).toInt64)))])
    refine own_go (fun _ k => XS.bipush X62.here hx rfl (hb hby at_100) k) ?_
    show own_Go _ _ _ _ T62 (mkF m 102 #[.val (.long q_1), .second, .val (.int p_2), .val (.int p_3), .val (.int (p_3.toUInt32.toUInt16.toUInt32.toInt32)), .val (.ref b1), .val (.int (2 : Int32)), .unset, .unset] [(.int (48 : Int32)), (.long (((((q_1.toUInt64 >>> ((48 : Int32) &&& 0x3f).toInt64.toUInt64).toInt64).toInt32).toUInt32.toUInt16.toUInt32.toInt32).toInt64)), (.long (((((q_1.toInt32).toUInt32.toUInt16.toUInt32.toInt32).toInt64) ||| ((((((q_1.toUInt64 >>> ((16 : Int32) &&& 0x3f).toInt64.toUInt64).toInt64).toInt32).toUInt32.toUInt16.toUInt32.toInt32).toInt64) <<< ((16 : Int32) &&& 0x3f).toInt64)) ||| ((((((q_1.toUInt64 >>> ((32 : Int32) &&& 0x3f).toInt64.toUInt64).toInt64).toInt32).toUInt32.toUInt16.toUInt32.toInt32).toInt64) <<< ((32 : Int32) &&& 0x3f).toInt64)))])
    refine own_go (fun _ k => XS.lshl X62.here hx rfl (hb hby at_102) rfl k) ?_
    show own_Go _ _ _ _ T62 (mkF m 103 #[.val (.long q_1), .second, .val (.int p_2), .val (.int p_3), .val (.int (p_3.toUInt32.toUInt16.toUInt32.toInt32)), .val (.ref b1), .val (.int (2 : Int32)), .unset, .unset] [(.long ((((((q_1.toUInt64 >>> ((48 : Int32) &&& 0x3f).toInt64.toUInt64).toInt64).toInt32).toUInt32.toUInt16.toUInt32.toInt32).toInt64) <<< ((48 : Int32) &&& 0x3f).toInt64)), (.long (((((q_1.toInt32).toUInt32.toUInt16.toUInt32.toInt32).toInt64) ||| ((((((q_1.toUInt64 >>> ((16 : Int32) &&& 0x3f).toInt64.toUInt64).toInt64).toInt32).toUInt32.toUInt16.toUInt32.toInt32).toInt64) <<< ((16 : Int32) &&& 0x3f).toInt64)) ||| ((((((q_1.toUInt64 >>> ((32 : Int32) &&& 0x3f).toInt64.toUInt64).toInt64).toInt32).toUInt32.toUInt16.toUInt32.toInt32).toInt64) <<< ((32 : Int32) &&& 0x3f).toInt64)))])
    refine own_go (fun _ k => XS.lor X62.here hx rfl (hb hby at_103) rfl k) ?_
    show own_Go _ _ _ _ T62 (mkF m 104 #[.val (.long q_1), .second, .val (.int p_2), .val (.int p_3), .val (.int (p_3.toUInt32.toUInt16.toUInt32.toInt32)), .val (.ref b1), .val (.int (2 : Int32)), .unset, .unset] [(.long ((((((q_1.toInt32).toUInt32.toUInt16.toUInt32.toInt32).toInt64) ||| ((((((q_1.toUInt64 >>> ((16 : Int32) &&& 0x3f).toInt64.toUInt64).toInt64).toInt32).toUInt32.toUInt16.toUInt32.toInt32).toInt64) <<< ((16 : Int32) &&& 0x3f).toInt64)) ||| ((((((q_1.toUInt64 >>> ((32 : Int32) &&& 0x3f).toInt64.toUInt64).toInt64).toInt32).toUInt32.toUInt16.toUInt32.toInt32).toInt64) <<< ((32 : Int32) &&& 0x3f).toInt64)) ||| ((((((q_1.toUInt64 >>> ((48 : Int32) &&& 0x3f).toInt64.toUInt64).toInt64).toInt32).toUInt32.toUInt16.toUInt32.toInt32).toInt64) <<< ((48 : Int32) &&& 0x3f).toInt64)))])
    refine own_go (fun _ k => XS.lstore X62.here hx rfl (hb hby at_104) rfl (l' := #[.val (.long q_1), .second, .val (.int p_2), .val (.int p_3), .val (.int (p_3.toUInt32.toUInt16.toUInt32.toInt32)), .val (.ref b1), .val (.int (2 : Int32)), .val (.long ((((((q_1.toInt32).toUInt32.toUInt16.toUInt32.toInt32).toInt64) ||| ((((((q_1.toUInt64 >>> ((16 : Int32) &&& 0x3f).toInt64.toUInt64).toInt64).toInt32).toUInt32.toUInt16.toUInt32.toInt32).toInt64) <<< ((16 : Int32) &&& 0x3f).toInt64)) ||| ((((((q_1.toUInt64 >>> ((32 : Int32) &&& 0x3f).toInt64.toUInt64).toInt64).toInt32).toUInt32.toUInt16.toUInt32.toInt32).toInt64) <<< ((32 : Int32) &&& 0x3f).toInt64)) ||| ((((((q_1.toUInt64 >>> ((48 : Int32) &&& 0x3f).toInt64.toUInt64).toInt64).toInt32).toUInt32.toUInt16.toUInt32.toInt32).toInt64) <<< ((48 : Int32) &&& 0x3f).toInt64))), .second]) rfl k) ?_
    show own_Go _ _ _ _ T62 (mkF m 106 #[.val (.long q_1), .second, .val (.int p_2), .val (.int p_3), .val (.int (p_3.toUInt32.toUInt16.toUInt32.toInt32)), .val (.ref b1), .val (.int (2 : Int32)), .val (.long ((((((q_1.toInt32).toUInt32.toUInt16.toUInt32.toInt32).toInt64) ||| ((((((q_1.toUInt64 >>> ((16 : Int32) &&& 0x3f).toInt64.toUInt64).toInt64).toInt32).toUInt32.toUInt16.toUInt32.toInt32).toInt64) <<< ((16 : Int32) &&& 0x3f).toInt64)) ||| ((((((q_1.toUInt64 >>> ((32 : Int32) &&& 0x3f).toInt64.toUInt64).toInt64).toInt32).toUInt32.toUInt16.toUInt32.toInt32).toInt64) <<< ((32 : Int32) &&& 0x3f).toInt64)) ||| ((((((q_1.toUInt64 >>> ((48 : Int32) &&& 0x3f).toInt64.toUInt64).toInt64).toInt32).toUInt32.toUInt16.toUInt32.toInt32).toInt64) <<< ((48 : Int32) &&& 0x3f).toInt64))), .second] [])
    generalize hdv70 : ((((((q_1.toInt32).toUInt32.toUInt16.toUInt32.toInt32).toInt64) ||| ((((((q_1.toUInt64 >>> ((16 : Int32) &&& 0x3f).toInt64.toUInt64).toInt64).toInt32).toUInt32.toUInt16.toUInt32.toInt32).toInt64) <<< ((16 : Int32) &&& 0x3f).toInt64)) ||| ((((((q_1.toUInt64 >>> ((32 : Int32) &&& 0x3f).toInt64.toUInt64).toInt64).toInt32).toUInt32.toUInt16.toUInt32.toInt32).toInt64) <<< ((32 : Int32) &&& 0x3f).toInt64)) ||| ((((((q_1.toUInt64 >>> ((48 : Int32) &&& 0x3f).toInt64.toUInt64).toInt64).toInt32).toUInt32.toUInt16.toUInt32.toInt32).toInt64) <<< ((48 : Int32) &&& 0x3f).toInt64)) = v70
    show own_Go _ _ _ _ T62 (mkF m 106 #[.val (.long q_1), .second, .val (.int p_2), .val (.int p_3), .val (.int (p_3.toUInt32.toUInt16.toUInt32.toInt32)), .val (.ref b1), .val (.int (2 : Int32)), .val (.long v70), .second] [])
    refine own_go (fun _ k => XS.lload X62.here hx rfl (hb hby at_106) rfl k) ?_
    show own_Go _ _ _ _ T62 (mkF m 108 #[.val (.long q_1), .second, .val (.int p_2), .val (.int p_3), .val (.int (p_3.toUInt32.toUInt16.toUInt32.toInt32)), .val (.ref b1), .val (.int (2 : Int32)), .val (.long v70), .second] [(.long v70)])
    refine own_go (fun _ k => XS.lloadN X62.here hx rfl (hb hby at_108) rfl k) ?_
    show own_Go _ _ _ _ T62 (mkF m 109 #[.val (.long q_1), .second, .val (.int p_2), .val (.int p_3), .val (.int (p_3.toUInt32.toUInt16.toUInt32.toInt32)), .val (.ref b1), .val (.int (2 : Int32)), .val (.long v70), .second] [(.long q_1), (.long v70)])
    refine own_go (fun _ k => XS.lcmp X62.here hx rfl (hb hby at_109) rfl k) ?_
    show own_Go _ _ _ _ T62 (mkF m 110 #[.val (.long q_1), .second, .val (.int p_2), .val (.int p_3), .val (.int (p_3.toUInt32.toUInt16.toUInt32.toInt32)), .val (.ref b1), .val (.int (2 : Int32)), .val (.long v70), .second] [(.int (lcmpW v70 q_1))])
    have hc71 : v70 = q_1 := own_t0_4 q_1 v70 hdv70
    refine own_go (fun _ k => XS.ifYes X62.here hx rfl (pc0 := 110) (pc' := 115) rfl (hb hby at_110) rfl (Jvm.Free.XT.ll_eq_t hc71) (by decide) (by decide) k) ?_
    show own_Go _ _ _ _ T62 (mkF m 115 #[.val (.long q_1), .second, .val (.int p_2), .val (.int p_3), .val (.int (p_3.toUInt32.toUInt16.toUInt32.toInt32)), .val (.ref b1), .val (.int (2 : Int32)), .val (.long v70), .second] [])
    refine own_go (fun _ k => XS.iload X62.here hx rfl (hb hby at_115) rfl k) ?_
    show own_Go _ _ _ _ T62 (mkF m 117 #[.val (.long q_1), .second, .val (.int p_2), .val (.int p_3), .val (.int (p_3.toUInt32.toUInt16.toUInt32.toInt32)), .val (.ref b1), .val (.int (2 : Int32)), .val (.long v70), .second] [(.int (2 : Int32))])
    have hc72 : 0 < (2 : Int32) := by decide
    refine own_go (fun _ k => XS.ifNo X62.here hx rfl (hb hby at_117) rfl (Jvm.Free.XT.i0_le_f hc72) k) ?_
    show own_Go _ _ _ _ T62 (mkF m 120 #[.val (.long q_1), .second, .val (.int p_2), .val (.int p_3), .val (.int (p_3.toUInt32.toUInt16.toUInt32.toInt32)), .val (.ref b1), .val (.int (2 : Int32)), .val (.long v70), .second] [])
    refine own_go (fun _ k => XS.aload X62.here hx rfl (hb hby at_120) rfl rfl k) ?_
    show own_Go _ _ _ _ T62 (mkF m 122 #[.val (.long q_1), .second, .val (.int p_2), .val (.int p_3), .val (.int (p_3.toUInt32.toUInt16.toUInt32.toInt32)), .val (.ref b1), .val (.int (2 : Int32)), .val (.long v70), .second] [(.ref b1)])
    refine own_go (fun _ k => XS.iconst X62.here hx rfl (hb hby at_122) k) ?_
    show own_Go _ _ _ _ T62 (mkF m 123 #[.val (.long q_1), .second, .val (.int p_2), .val (.int p_3), .val (.int (p_3.toUInt32.toUInt16.toUInt32.toInt32)), .val (.ref b1), .val (.int (2 : Int32)), .val (.long v70), .second] [(.int (0 : Int32)), (.ref b1)])
    obtain ⟨q73, c73, R73, s73, t73⟩ := id f63
    have hin73 : ¬ ((0 : Int32) < 0 ∨ c73.slots.size ≤ ((0 : Int32)).toNatClampNeg) := inb_of s73 ⟨by decide, by decide⟩
    have u73 : c73.slots[((0 : Int32)).toNatClampNeg]? = some (.int (p_3.toUInt32.toUInt16.toUInt32.toInt32)) := own_at (k := 0) t73 s73 hin73 (by decide) (rfl)
    refine own_go (fun _ k => X62.caload hx (j := (0 : Int32)) (v := (.int (p_3.toUInt32.toUInt16.toUInt32.toInt32))) R73.1 (State.isArrayOf_alike hZ.alike R73.2.1) R73.2.2 hin73 u73 (g := (mkF m 123 #[.val (.long q_1), .second, .val (.int p_2), .val (.int p_3), .val (.int (p_3.toUInt32.toUInt16.toUInt32.toInt32)), .val (.ref b1), .val (.int (2 : Int32)), .val (.long v70), .second] [(.int (0 : Int32)), (.ref b1)])) rfl rfl (hb hby at_123) _ k) ?_
    show own_Go _ _ _ _ T62 (mkF m 124 #[.val (.long q_1), .second, .val (.int p_2), .val (.int p_3), .val (.int (p_3.toUInt32.toUInt16.toUInt32.toInt32)), .val (.ref b1), .val (.int (2 : Int32)), .val (.long v70), .second] [(.int (p_3.toUInt32.toUInt16.toUInt32.toInt32))])
    refine own_go (fun _ k => XS.iload X62.here hx rfl (hb hby at_124) rfl k) ?_
    show own_Go _ _ _ _ T62 (mkF m 126 #[.val (.long q_1), .second, .val (.int p_2), .val (.int p_3), .val (.int (p_3.toUInt32.toUInt16.toUInt32.toInt32)), .val (.ref b1), .val (.int (2 : Int32)), .val (.long v70), .second] [(.int (p_3.toUInt32.toUInt16.toUInt32.toInt32)), (.int (p_3.toUInt32.toUInt16.toUInt32.toInt32))])
    have hc74 : (p_3.toUInt32.toUInt16.toUInt32.toInt32) = (p_3.toUInt32.toUInt16.toUInt32.toInt32) := rfl
    refine own_go (fun _ k => XS.icmpYes X62.here hx rfl (pc0 := 126) (pc' := 131) rfl (hb hby at_126) rfl (Jvm.Free.XT.ii_eq_t hc74) (by decide) (by decide) k) ?_
    show own_Go _ _ _ _ T62 (mkF m 131 #[.val (.long q_1), .second, .val (.int p_2), .val (.int p_3), .val (.int (p_3.toUInt32.toUInt16.toUInt32.toInt32)), .val (.ref b1), .val (.int (2 : Int32)), .val (.long v70), .second] [])
    refine own_go (fun _ k => XS.iload X62.here hx rfl (hb hby at_131) rfl k) ?_
    show own_Go _ _ _ _ T62 (mkF m 133 #[.val (.long q_1), .second, .val (.int p_2), .val (.int p_3), .val (.int (p_3.toUInt32.toUInt16.toUInt32.toInt32)), .val (.ref b1), .val (.int (2 : Int32)), .val (.long v70), .second] [(.int (2 : Int32))])
    refine own_go (fun _ k => XS.iconst X62.here hx rfl (hb hby at_133) k) ?_
    show own_Go _ _ _ _ T62 (mkF m 134 #[.val (.long q_1), .second, .val (.int p_2), .val (.int p_3), .val (.int (p_3.toUInt32.toUInt16.toUInt32.toInt32)), .val (.ref b1), .val (.int (2 : Int32)), .val (.long v70), .second] [(.int (1 : Int32)), (.int (2 : Int32))])
    have hc75 : (1 : Int32) < (2 : Int32) := by decide
    refine own_go (fun _ k => XS.icmpNo X62.here hx rfl (hb hby at_134) rfl (Jvm.Free.XT.ii_le_f hc75) k) ?_
    show own_Go _ _ _ _ T62 (mkF m 137 #[.val (.long q_1), .second, .val (.int p_2), .val (.int p_3), .val (.int (p_3.toUInt32.toUInt16.toUInt32.toInt32)), .val (.ref b1), .val (.int (2 : Int32)), .val (.long v70), .second] [])
    refine own_go (fun _ k => XS.aload X62.here hx rfl (hb hby at_137) rfl rfl k) ?_
    show own_Go _ _ _ _ T62 (mkF m 139 #[.val (.long q_1), .second, .val (.int p_2), .val (.int p_3), .val (.int (p_3.toUInt32.toUInt16.toUInt32.toInt32)), .val (.ref b1), .val (.int (2 : Int32)), .val (.long v70), .second] [(.ref b1)])
    refine own_go (fun _ k => XS.iconst X62.here hx rfl (hb hby at_139) k) ?_
    show own_Go _ _ _ _ T62 (mkF m 140 #[.val (.long q_1), .second, .val (.int p_2), .val (.int p_3), .val (.int (p_3.toUInt32.toUInt16.toUInt32.toInt32)), .val (.ref b1), .val (.int (2 : Int32)), .val (.long v70), .second] [(.int (1 : Int32)), (.ref b1)])
    obtain ⟨q76, c76, R76, s76, t76⟩ := id f63
    have hin76 : ¬ ((1 : Int32) < 0 ∨ c76.slots.size ≤ ((1 : Int32)).toNatClampNeg) := inb_of s76 ⟨by decide, by decide⟩
    have u76 : c76.slots[((1 : Int32)).toNatClampNeg]? = some (.int (p_3.toUInt32.toUInt16.toUInt32.toInt32)) := own_at (k := 1) t76 s76 hin76 (by decide) (rfl)
    refine own_go (fun _ k => X62.caload hx (j := (1 : Int32)) (v := (.int (p_3.toUInt32.toUInt16.toUInt32.toInt32))) R76.1 (State.isArrayOf_alike hZ.alike R76.2.1) R76.2.2 hin76 u76 (g := (mkF m 140 #[.val (.long q_1), .second, .val (.int p_2), .val (.int p_3), .val (.int (p_3.toUInt32.toUInt16.toUInt32.toInt32)), .val (.ref b1), .val (.int (2 : Int32)), .val (.long v70), .second] [(.int (1 : Int32)), (.ref b1)])) rfl rfl (hb hby at_140) _ k) ?_
    show own_Go _ _ _ _ T62 (mkF m 141 #[.val (.long q_1), .second, .val (.int p_2), .val (.int p_3), .val (.int (p_3.toUInt32.toUInt16.toUInt32.toInt32)), .val (.ref b1), .val (.int (2 : Int32)), .val (.long v70), .second] [(.int (p_3.toUInt32.toUInt16.toUInt32.toInt32))])
    refine own_go (fun _ k => XS.iload X62.here hx rfl (hb hby at_141) rfl k) ?_
    show own_Go _ _ _ _ T62 (mkF m 143 #[.val (.long q_1), .second, .val (.int p_2), .val (.int p_3), .val (.int (p_3.toUInt32.toUInt16.toUInt32.toInt32)), .val (.ref b1), .val (.int (2 : Int32)), .val (.long v70), .second] [(.int (p_3.toUInt32.toUInt16.toUInt32.toInt32)), (.int (p_3.toUInt32.toUInt16.toUInt32.toInt32))])
    have hc77 : (p_3.toUInt32.toUInt16.toUInt32.toInt32) = (p_3.toUInt32.toUInt16.toUInt32.toInt32) := rfl
    refine own_go (fun _ k => XS.icmpYes X62.here hx rfl (pc0 := 143) (pc' := 148) rfl (hb hby at_143) rfl (Jvm.Free.XT.ii_eq_t hc77) (by decide) (by decide) k) ?_
    show own_Go _ _ _ _ T62 (mkF m 148 #[.val (.long q_1), .second, .val (.int p_2), .val (.int p_3), .val (.int (p_3.toUInt32.toUInt16.toUInt32.toInt32)), .val (.ref b1), .val (.int (2 : Int32)), .val (.long v70), .second] [])
    refine own_go (fun _ k => XS.iload X62.here hx rfl (hb hby at_148) rfl k) ?_
    show own_Go _ _ _ _ T62 (mkF m 150 #[.val (.long q_1), .second, .val (.int p_2), .val (.int p_3), .val (.int (p_3.toUInt32.toUInt16.toUInt32.toInt32)), .val (.ref b1), .val (.int (2 : Int32)), .val (.long v70), .second] [(.int (2 : Int32))])
    have hc78 : ¬ ((2 : Int32) = 0) := by decide
    refine own_go (fun _ k => XS.ifYes X62.here hx rfl (pc0 := 150) (pc' := 164) rfl (hb hby at_150) rfl (Jvm.Free.XT.i0_ne_t hc78) (by decide) (by decide) k) ?_
    show own_Go _ _ _ _ T62 (mkF m 164 #[.val (.long q_1), .second, .val (.int p_2), .val (.int p_3), .val (.int (p_3.toUInt32.toUInt16.toUInt32.toInt32)), .val (.ref b1), .val (.int (2 : Int32)), .val (.long v70), .second] [])
    refine own_go (fun _ k => XS.iload X62.here hx rfl (hb hby at_164) rfl k) ?_
    show own_Go _ _ _ _ T62 (mkF m 166 #[.val (.long q_1), .second, .val (.int p_2), .val (.int p_3), .val (.int (p_3.toUInt32.toUInt16.toUInt32.toInt32)), .val (.ref b1), .val (.int (2 : Int32)), .val (.long v70), .second] [(.int (2 : Int32))])
    refine own_go (fun _ k => XS.iconst X62.here hx rfl (hb hby at_166) k) ?_
    show own_Go _ _ _ _ T62 (mkF m 167 #[.val (.long q_1), .second, .val (.int p_2), .val (.int p_3), .val (.int (p_3.toUInt32.toUInt16.toUInt32.toInt32)), .val (.ref b1), .val (.int (2 : Int32)), .val (.long v70), .second] [(.int (2 : Int32)), (.int (2 : Int32))])
    have hc79 : ¬ ((2 : Int32) < (2 : Int32)) := by decide
    refine own_go (fun _ k => XS.icmpYes X62.here hx rfl (pc0 := 167) (pc' := 181) rfl (hb hby at_167) rfl (Jvm.Free.XT.ii_ge_t hc79) (by decide) (by decide) k) ?_
    show own_Go _ _ _ _ T62 (mkF m 181 #[.val (.long q_1), .second, .val (.int p_2), .val (.int p_3), .val (.int (p_3.toUInt32.toUInt16.toUInt32.toInt32)), .val (.ref b1), .val (.int (2 : Int32)), .val (.long v70), .second] [])
    refine own_go (fun _ k => XS.iconst X62.here hx rfl (hb hby at_181) k) ?_
    show own_Go _ _ _ _ T62 (mkF m 182 #[.val (.long q_1), .second, .val (.int p_2), .val (.int p_3), .val (.int (p_3.toUInt32.toUInt16.toUInt32.toInt32)), .val (.ref b1), .val (.int (2 : Int32)), .val (.long v70), .second] [(.int (1 : Int32))])
    obtain ⟨fs, hr, hrun, hended, hW, hsame⟩ := X62.leave (v := some (.int (1 : Int32))) (fun h => by rw [Bd.returns] at h; cases h)
    refine ⟨_, _, retOut X62 hx Bd.returns rfl (Or.inl ⟨rfl, Or.inr (Or.inl rfl), _, rfl⟩) (hb hby at_182) hr, hrun, hended, _, _, rfl, ?_, ⟨_, rfl⟩, hW, hsame.mono (by rw [y62]; decide) (by rw [z62]; decide)⟩
    exact ⟨rfl, N62⟩
set_option maxRecDepth 65536 in
set_option maxHeartbeats 40000000 in
theorem comes_1 {Post : Tables → Env → Array Value → State → Outcome → State → Prop} (hpost : ∀ tb e args s v u, (limb_1_1.after args s (.returned v) u = true ∧ limb_1_2.after args s (.returned v) u = true ∧ True) → FrameEnd s (.returned v) u (Jvm.fieldLocs frame_1_writes args s ++ Jvm.arrayLocs frame_1_arrays args s ++ Jvm.staticLocs frame_1_statics s) 16 128 → Post tb e args s (.returned v) u) :
    ArmFor flags0 classFile x code maxLocals ret World_1 tables_1 room_1 Calls_1 rest_1 Pre_1 Post := by
  intro l hfl _ _ p e ha hc hk s m args below hf hA hF happ hP
  obtain ⟨hcalls, hrest, hpre⟩ := hP
  obtain ⟨-, -, -, hnamed, -, -, -, hat⟩ := (Spec.applies_iff hf).mp happ
  obtain ⟨hg, hn⟩ := and_e (Cond.before_iff.mp (show (Jvm.Cond.and given_1 narrow_1).before args s = true from hpre))
  obtain ⟨g1, g2⟩ := and_e hg
  obtain ⟨g3, g4⟩ := and_e g2
  obtain ⟨g5, g6⟩ := and_e g4
  obtain ⟨w0, w1, w2, rfl⟩ : ∃ w0 w1 w2 : Value, args = #[w0, w1, w2] := by
    have hs : args.size = 3 := by simpa [Cond.value, given_1] using g1
    obtain ⟨L⟩ := args
    match L, hs with
    | [w0, w1, w2], _ => exact ⟨w0, w1, w2, rfl⟩
  have hw := fun d (hd : d ∈ tables_1) => atoms_spec (ws := Jvm.Cond.code x code maxLocals ret :: tables_1) hat d (List.mem_cons_of_mem _ hd)
  have hfit : Fit s := fun {y c} hc i hi => by
    obtain ⟨ha, rfl⟩ := Array.getElem?_eq_some_iff.mp hc
    have q := List.all_eq_true.mp ((Array.all_eq_true_iff_forall_mem.mp hF) _ (Array.getElem_mem ha)) i (List.mem_range.mpr hi)
    simpa [Array.getElem?_eq_getElem hi] using q
  obtain ⟨i0, ei0⟩ := isL_v g3
  obtain rfl : w0 = (.long i0) := Option.some.inj ei0
  obtain ⟨i1, ei1⟩ := is_v g5
  obtain rfl : w1 = (.int i1) := Option.some.inj ei1
  obtain ⟨i2, ei2⟩ := is_v g6
  obtain rfl : w2 = (.int i2) := Option.some.inj ei2
  obtain ⟨n, o, h1, h2, h3, _, L, rfl, ⟨rfl, N⟩, hq⟩ := own_rm0 l s _ hw tables_1 i0 i1 i2  s.heap s.heap.size (Nat.le_refl _)  p e ha hc hk s m _ below hf ((Spec.applies_iff_loose hf).mp happ).1 ⟨rfl, State.Warmed39.refl s, rfl⟩ trivial
  refine ⟨n, _, h1, h2, h3, hpost _ _ _ _ _ _ ⟨Cond.after_iff.mpr rfl, Cond.after_iff.mpr (eq_i res_at (Term.int_eval (1)) rfl), trivial⟩ ⟨hq.1, hq.2.1, (hq.2.2.sift fun y hy => Or.inr (N y hy)).mono (by decide) (by decide)⟩⟩
theorem main_1_1 : Claimed_1_1 := comes_1 fun _ _ _ _ _ _ h hF => ⟨h.1, hF⟩
theorem main_1_2 : Claimed_1_2 := comes_1 fun _ _ _ _ _ _ h hF => ⟨h.2.1, hF⟩
end Jvm.Pilot.@@N@@
namespace Jvm.Pilot.@@N@@
open Jvm Jvm.ClassFile Sem Op Lib Jvm.Free Jvm.Stand Jvm.Pilot.@@N@@.Jvm.D
/-! MADE BY PROGRAM (witnessworld.py) out of the Statement's table words and the real class files: 11 classes; the members and pool entries that the words name. The judged class is class 1, her method 1. -/
namespace start1
open Jvm.ClassFile
def u (s : String) : CpInfo := .utf8 (stringToUtf16 s)
/-- a pool by its gaps: so many unusable entries, then the entry; so many at the end -/
def gap : Nat → List CpInfo → List CpInfo
  | 0, r => r
  | n + 1, r => .unusable :: gap n r
def poolList (es : List (Nat × CpInfo)) (last : Nat) : List CpInfo := es.foldr (fun e r => gap e.1 (e.2 :: r)) (gap last [])
def pool (es : List (Nat × CpInfo)) (last : Nat) : Array CpInfo := ⟨poolList es last⟩
def fileOf (pool : Array CpInfo) (this : Nat) (attrs : Array Attribute := #[]) (ms : Array MethodInfo := #[]) (fl : Nat := 33) (sup : Nat := 0) (ifs : Array Nat := #[]) (fds : Array FieldInfo := #[]) : ClassFile where
  minorVersion := 0
  majorVersion := 65
  constantPool := pool
  accessFlags := fl
  thisClass := this
  superClass := sup
  interfaces := ifs
  fields := fds
  methods := ms
  attributes := attrs
def plain (name : String) (sup : Option ClassId) : Class where
  name := name
  kind := .ordinary
  loader := none
  accessFlags := 33
  super := sup
  interfaces := #[]
  cf := none
  fields := #[]
  methods := #[]
  instanceTypes := #[]
  staticTypes := #[]
  resolved := #[]
  callSites := []
  init := .initialized
  statics := none
  mirror := none

def pool0 : Array CpInfo := pool [(5, u "<init>"), (0, u "()V"), (1, .class_ 10), (1, u "java/lang/Object")] 113

def k0m0 : Method := { name := "<init>", desc := "()V", sig := { parameters := [], returnType := none }, accessFlags := 1, code := none }
/-- java/lang/Object -/
def k0 : Class := { plain "java/lang/Object" none with
  accessFlags := 33
  interfaces := #[]
  cf := some (fileOf pool0 8 #[] #[{ accessFlags := 1, nameIndex := 5, descriptorIndex := 6, attributes := #[] }] 33 0 #[] #[])
  fields := #[]
  methods := #[k0m0]
  instanceTypes := #[]
  staticTypes := #[]
  resolved := Array.replicate 124 none
  statics := none }

def pool1 : Array CpInfo := pool [(2, .class_ 4), (1, u "java/lang/Object"), (0, u "<init>"), (0, u "()V"), (0, .integer 2147483647), (0, .methodref 9 10), (0, .class_ 11), (0, .nameAndType 12 13), (0, u "com/example/honest_codec/honestcodec/Words"), (0, u "putLanes"), (0, u "(J[CI)V"), (0, .class_ 15), (0, u "com/example/honest_codec/honestcodec/WordsPutLanesPinLaw"), (2, u "law"), (0, u "(JII)Z")] 5

def k1m0 : Method := { name := "<init>", desc := "()V", sig := { parameters := [], returnType := none }, accessFlags := 2, code := none }
def k1c1 : Code := { maxStack := 5, maxLocals := 9, code := code, exceptionTable := #[], attributes := #[] }
def k1m1 : Method := { name := "law", desc := "(JII)Z", sig := { parameters := [.long, .int, .int], returnType := some .boolean }, accessFlags := 9, code := some k1c1 }
/-- com/example/honest_codec/honestcodec/WordsPutLanesPinLaw -/
def k1 : Class := { plain "com/example/honest_codec/honestcodec/WordsPutLanesPinLaw" (some 0) with
  accessFlags := 49
  interfaces := #[]
  cf := some (fileOf pool1 14 #[] #[{ accessFlags := 2, nameIndex := 5, descriptorIndex := 6, attributes := #[] }, { accessFlags := 9, nameIndex := 18, descriptorIndex := 19, attributes := #[] }] 49 2 #[] #[])
  fields := #[]
  methods := #[k1m0, k1m1]
  instanceTypes := #[]
  staticTypes := #[]
  resolved := Array.replicate 25 none
  statics := none }

def pool2 : Array CpInfo := pool [(3, .class_ 4), (0, u "com/example/honest_codec/honestcodec/Words"), (1, .class_ 8), (1, u "java/lang/Object"), (0, u "<init>"), (0, u "()V"), (2, u "LITTLE_ENDIAN_WORDS"), (0, u "Ljava/lang/invoke/VarHandle;"), (26, u "WORD"), (0, u "I"), (2, u "EACH_BYTE"), (0, u "J"), (2, u "TOP_BITS"), (2, u "LANES"), (2, u "LANE_TOP_BITS"), (3, u "putLanes"), (0, u "(J[CI)V")] 5

def k2m0 : Method := { name := "<init>", desc := "()V", sig := { parameters := [], returnType := none }, accessFlags := 2, code := none }
def k2c1 : Code := { maxStack := 5, maxLocals := 4, code := prog_36_method_3_code, exceptionTable := #[], attributes := #[] }
def k2m1 : Method := { name := "putLanes", desc := "(J[CI)V", sig := { parameters := [.long, (.array .char), .int], returnType := none }, accessFlags := 8, code := some k2c1 }
/-- com/example/honest_codec/honestcodec/Words -/
def k2 : Class := { plain "com/example/honest_codec/honestcodec/Words" (some 0) with
  accessFlags := 32
  interfaces := #[]
  cf := some (fileOf pool2 3 #[] #[{ accessFlags := 2, nameIndex := 9, descriptorIndex := 10, attributes := #[] }, { accessFlags := 8, nameIndex := 59, descriptorIndex := 60, attributes := #[] }] 32 6 #[] #[{ accessFlags := 24, nameIndex := 41, descriptorIndex := 42, attributes := #[] }, { accessFlags := 24, nameIndex := 45, descriptorIndex := 46, attributes := #[] }, { accessFlags := 24, nameIndex := 49, descriptorIndex := 46, attributes := #[] }, { accessFlags := 24, nameIndex := 52, descriptorIndex := 46, attributes := #[] }, { accessFlags := 24, nameIndex := 55, descriptorIndex := 46, attributes := #[] }, { accessFlags := 26, nameIndex := 13, descriptorIndex := 14, attributes := #[] }])
  fields := #[{ name := "WORD", type := .int, accessFlags := 24, slot := 0, constantValue := 0 }, { name := "EACH_BYTE", type := .long, accessFlags := 24, slot := 1, constantValue := 0 }, { name := "TOP_BITS", type := .long, accessFlags := 24, slot := 2, constantValue := 0 }, { name := "LANES", type := .long, accessFlags := 24, slot := 3, constantValue := 0 }, { name := "LANE_TOP_BITS", type := .long, accessFlags := 24, slot := 4, constantValue := 0 }, { name := "LITTLE_ENDIAN_WORDS", type := (.object "java/lang/invoke/VarHandle"), accessFlags := 26, slot := 5, constantValue := 0 }]
  methods := #[k2m0, k2m1]
  instanceTypes := #[]
  staticTypes := #[.int, .long, .long, .long, .long, (.object "java/lang/invoke/VarHandle")]
  resolved := Array.replicate 66 none
  statics := none }

def pool3 : Array CpInfo := pool [(1, u "java/lang/Cloneable"), (0, .class_ 1), (0, u "java/lang/Object"), (0, .class_ 3)] 3

/-- java/lang/Cloneable -/
def k3 : Class := { plain "java/lang/Cloneable" (some 0) with
  accessFlags := 1537
  interfaces := #[]
  cf := some (fileOf pool3 2 #[] #[] 1537 4 #[] #[])
  fields := #[]
  methods := #[]
  instanceTypes := #[]
  staticTypes := #[]
  resolved := Array.replicate 8 none
  statics := none }

def pool4 : Array CpInfo := pool [(1, u "java/io/Serializable"), (0, .class_ 1), (0, u "java/lang/Object"), (0, .class_ 3)] 3

/-- java/io/Serializable -/
def k4 : Class := { plain "java/io/Serializable" (some 0) with
  accessFlags := 1537
  interfaces := #[]
  cf := some (fileOf pool4 2 #[] #[] 1537 4 #[] #[])
  fields := #[]
  methods := #[]
  instanceTypes := #[]
  staticTypes := #[]
  resolved := Array.replicate 8 none
  statics := none }

/-- the primitive byte -/
def k5 : Class := { plain "byte" none with kind := .primitive 'B', accessFlags := 0x411 }
/-- [B -/
def k6 : Class := { plain "[B" (some 0) with kind := .array 5 .byte, interfaces := #[3, 4], accessFlags := 1041 }

/-- the primitive char -/
def k7 : Class := { plain "char" none with kind := .primitive 'C', accessFlags := 0x411 }
/-- [C -/
def k8 : Class := { plain "[C" (some 0) with kind := .array 7 .char, interfaces := #[3, 4], accessFlags := 1041 }

/-- the primitive int -/
def k9 : Class := { plain "int" none with kind := .primitive 'I', accessFlags := 0x411 }
/-- [I -/
def k10 : Class := { plain "[I" (some 0) with kind := .array 9 .int, interfaces := #[3, 4], accessFlags := 1041 }

def heap : Heap := #[]
def classes : Array Class := #[k0, k1, k2, k3, k4, k5, k6, k7, k8, k9, k10]
def interned : List (Array UInt16 × Addr) := []
def slotsUsed : Nat := 0
def theMethod : MethodId := ⟨1, 1⟩
def args0 : Array Value := #[.long 5, .int 5, .int 5]
def aboutOver (below : List Frame) : State where
  vm := { classes := classes, interned := interned.toArray }
  heap := heap
  slotsUsed := slotsUsed
  threads := #[{ frames := .invoking theMethod args0 :: below }]
def below0 : List Frame := [.native { method := ⟨0, 0⟩, args := #[] }]
def about1 : State := aboutOver below0
def p0 : Program := .bare "" "" ""
def e0 : Env := launch0.env 0 0 0
theorem w_frames : about1.frames = Frame.invoking theMethod args0 :: below0 := rfl
set_option maxRecDepth 65536 in
theorem w_args : argsFit about1.vm theMethod args0 = true := by decide +kernel
set_option maxRecDepth 65536 in
theorem w_heap : heapFits about1 = true := by decide +kernel
set_option maxRecDepth 65536 in
theorem w_runnable : about1.curStatus? = some .runnable := by decide +kernel
set_option maxRecDepth 65536 in
theorem w_alone : about1.alone = true := by decide +kernel
set_option maxRecDepth 65536 in
theorem w_named : about1.methodNamed? x = some theMethod := by decide +kernel
set_option maxRecDepth 65536 in
theorem w_hears : about1.hears theMethod below0 = true := by decide +kernel
set_option maxRecDepth 65536 in
theorem w_ripe : about1.ripe theMethod args0 below0 = true := by decide +kernel
theorem w_running : about1.status = .running := rfl
set_option maxRecDepth 65536 in
theorem w_room : about1.hasRoom e0.platform room_1 = true :=
  launch0.hasRoom_least _ room_1 (by decide +kernel) (by decide +kernel) (by decide +kernel) (by decide +kernel) (by decide +kernel) (by decide +kernel)
theorem allAtoms_all (ts : List Jvm.Cond) (a : Array Jvm.Value) (st : Jvm.State) : (allAtoms ts).before a st = ts.all (fun c => c.before a st) := by
  induction ts with
  | nil => rfl
  | cons c t ih =>
    show (Jvm.Cond.and c (allAtoms t)).before a st = _
    rw [Jvm.Cond.before_and, ih, List.all_cons]
def words1 : List Jvm.Cond := Jvm.Cond.code x code maxLocals ret :: tables_1
/-- a 'code' word, met by the world's own term for the bytes: nothing is compared byte by byte -/
theorem code_word {y : MethodName} {bytes : ByteArray} {mx : Nat} {rt : Option FieldType} {a : Array Value} {s : State} {m : MethodId} {meth : Method} {c : Code} (h1 : s.methodNamed? y = some m) (h2 : s.vm.method? m = some meth) (h3 : meth.code = some c) (h4 : c.code = bytes)
    (h5 : (c.maxLocals == mx && c.exceptionTable.isEmpty && decide (c.maxStack ≤ mostOperands) && decide (meth.sig.returnType = rt) && !meth.locks && decide (parseMethodDescriptor y.desc = some meth.sig)) = true) : (Jvm.Cond.code y bytes mx rt).before a s = true := by
  simp only [Bool.and_eq_true, beq_iff_eq, Bool.not_eq_true', decide_eq_true_eq] at h5
  obtain ⟨⟨⟨⟨⟨g1, g2⟩, g3⟩, g4⟩, g5⟩, g6⟩ := h5
  simp [Cond.before, Cond.holds, Cond.value, h1, h2, h3, h4, g1, g2, g3, g4, g5, g6]
def isCode : Jvm.Cond → Bool
  | .code _ _ _ _ => true
  | _ => false
theorem all_split {L : List Jvm.Cond} {P : Jvm.Cond → Bool} (h1 : L.all (fun c => isCode c || P c) = true) (h2 : ∀ c ∈ L.filter isCode, P c = true) : L.all P = true := by
  refine List.all_eq_true.mpr fun c hc => ?_
  have h := List.all_eq_true.mp h1 c hc
  rcases Bool.eq_false_or_eq_true (isCode c) with hi | hi
  · exact h2 c (List.mem_filter.mpr ⟨hc, hi⟩)
  · simpa [hi] using h
set_option maxRecDepth 65536 in
theorem w_c0 : (Jvm.Cond.code x code maxLocals ret).before args0 about1 = true := code_word (m := ⟨1, 1⟩) (meth := k1m1) (c := k1c1) (by decide +kernel) rfl rfl rfl (by decide +kernel)
set_option maxRecDepth 65536 in
theorem w_c1 : (Jvm.Cond.code ({ cls := "com/example/honest_codec/honestcodec/Words", name := "putLanes", desc := "(J[CI)V" } : Jvm.MethodName) prog_36_method_3_code (4 : Nat) (Option.none : Option Jvm.ClassFile.FieldType)).before args0 about1 = true := code_word (m := ⟨2, 1⟩) (meth := k2m1) (c := k2c1) (by decide +kernel) rfl rfl rfl (by decide +kernel)
def codes1 : List Jvm.Cond := [Jvm.Cond.code x code maxLocals ret, Jvm.Cond.code ({ cls := "com/example/honest_codec/honestcodec/Words", name := "putLanes", desc := "(J[CI)V" } : Jvm.MethodName) prog_36_method_3_code (4 : Nat) (Option.none : Option Jvm.ClassFile.FieldType)]
set_option maxRecDepth 65536 in
theorem codes_eq : words1.filter isCode = codes1 := rfl
theorem w_codes : ∀ c ∈ words1.filter isCode, c.before args0 about1 = true := by
  rw [codes_eq]
  intro c hc
  simp only [codes1, List.mem_cons, List.not_mem_nil, or_false] at hc
  rcases hc with rfl | rfl
  · exact w_c0
  · exact w_c1
set_option maxRecDepth 65536 in
theorem w_t1 : words1.all (fun c => isCode c || c.before args0 about1) = true := by decide +kernel
theorem w_tables : (allAtoms (Jvm.Cond.code x code maxLocals ret :: tables_1)).before args0 about1 = true := by
  rw [allAtoms_all]
  show words1.all (fun c => c.before args0 about1) = true
  refine all_split ?_ w_codes
  rw [w_t1]
set_option maxRecDepth 65536 in
theorem w_case : (Jvm.Cond.and given_1 narrow_1).before args0 about1 = true := by decide +kernel
theorem w_applies : (headSpec (Jvm.Cond.code x code maxLocals ret :: tables_1) room_1).applies x e0.platform about1 = true :=
  (Spec.applies_iff w_frames).mpr ⟨w_running, w_runnable, w_alone, w_named, w_hears, w_ripe, w_room, w_tables⟩
theorem atStart : AtStart classFile x code maxLocals ret World_1 tables_1 room_1 Calls_1 rest_1 Pre_1 launch0 p0 e0 about1 theMethod args0 below0 :=
  ⟨lists_1, trivial, launch0.admits_env _ _ _, launch0.least_env, fairChoices_fair.cas, fairChoices_fair.clock, w_frames, w_args, w_heap, w_applies, trivial, trivial, w_case⟩
end start1
theorem witness_1 : WitnessClaimed_1 := ⟨start1.p0, start1.e0, start1.about1, start1.theMethod, start1.args0, start1.below0, start1.atStart⟩
end Jvm.Pilot.@@N@@
