import JvmDerived
import JvmDerived.Pilot.@@N@@Statement
import JvmDerived.Pilot.@@N@@Code
set_option linter.unusedVariables false
set_option linter.unusedSimpArgs false
namespace Jvm.Pilot.@@N@@
open Jvm Jvm.ClassFile Sem Op Lib Jvm.Free Jvm.Stand Jvm.LawKit Jvm.RoadKit Bundle Jvm.Pilot.@@N@@.Jvm.D
def own_Go (tb : Tables) (e : Env) (below : List Frame) (P : State → Outcome → Prop) (T : State) (g : JFrame) : Prop := ∃ t o, Steps tb e below (T.setTop g) t ∧ P t o
theorem own_go {tb : Tables} {e : Env} {below : List Frame} {P : State → Outcome → Prop} {T T' : State} {g g' : JFrame} (k : ∀ target, Steps tb e below (T'.setTop g') target → Steps tb e below (T.setTop g) target) (h : own_Go tb e below P T' g') : own_Go tb e below P T g := by
  obtain ⟨t, o, a, b⟩ := h
  exact ⟨t, o, k t a, b⟩
theorem own_cast {P Q : Prop} (h : P = Q) (p : P) : Q := h ▸ p
def own_upd (f : Nat → Value) (k : Nat) (v : Value) : Nat → Value := fun i => if i = k then v else f i
/-- an array of length z at a, its element i being f i -/
def own_AV (Z : State) (h : Heap) (a : Addr) (ty : FieldType) (z : Int32) (f : Nat → Value) : Prop := ¬ z < 0 ∧ ∃ c : Cell, Arr Z h a c ty ∧ c.slots.size = z.toNatClampNeg ∧ ∀ i, i < c.slots.size → c.slots[i]? = some (f i)
section
variable {Z : State} {h h' : Heap} {a b : Addr} {ty : FieldType} {z j : Int32} {f : Nat → Value} {v w : Value} {sl k : Nat} {ws : List Addr} {cA : ClassId}
theorem own_AV.lt (F : own_AV Z h a ty z f) : a < h.size := by obtain ⟨_, c, A, -⟩ := F; exact A.lt
theorem own_AV.ext (F : own_AV Z h a ty z f) (E : Ext h h') : own_AV Z h' a ty z f := by obtain ⟨q, c, A, r⟩ := F; exact ⟨q, c, A.ext E, r⟩
theorem own_AV.other (F : own_AV Z h b ty z f) (W : Wr h h' a sl v) (q : b ≠ a) : own_AV Z h' b ty z f := by obtain ⟨q1, c, A, r⟩ := F; exact ⟨q1, c, A.other W q, r⟩
theorem own_AV.keep (F : own_AV Z h a ty z f) (K : Keep h h' ws) (q : a ∉ ws) : own_AV Z h' a ty z f := by obtain ⟨q1, c, A, r⟩ := F; exact ⟨q1, c, ⟨K.2.1 a c A.1 q, A.2⟩, r⟩
theorem own_AV.new (A : Arr Z h a (newA cA ty z) ty) (q : ¬ z < 0) : own_AV Z h a ty z (fun _ => defaultValue ty) :=
  ⟨q, _, A, sz_new _ _ _, fun i hi => by
    rw [sz_new] at hi
    simp [newA, hi]⟩
theorem own_AV.set (F : own_AV Z h a ty z f) (W : Wr h h' a j.toNatClampNeg v) (hk : j.toNatClampNeg = k) : own_AV Z h' a ty z (own_upd f k v) := by
  obtain ⟨q, c, A, s, t⟩ := F
  subst hk
  refine ⟨q, _, A.same W, by rw [sz_set]; exact s, fun i hi => ?_⟩
  rw [sz_set] at hi
  by_cases e : i = j.toNatClampNeg
  · subst e; simp [own_upd, Cell.setSlot, hi]
  · simp only [own_upd, if_neg e, Cell.setSlot]
    rw [Array.getElem?_setIfInBounds_ne (Ne.symm e)]; exact t i hi
theorem own_at {c : Cell} (t : ∀ i, i < c.slots.size → c.slots[i]? = some (f i)) (s : c.slots.size = z.toNatClampNeg) (hin : ¬ (j < 0 ∨ c.slots.size ≤ j.toNatClampNeg)) (hk : j.toNatClampNeg = k) (hv : f k = v) : c.slots[j.toNatClampNeg]? = some v := by
  rw [t _ (Nat.lt_of_not_le fun q => hin (Or.inr q)), hk, hv]
theorem own_sta_keep {C n d : String} (F : Sta Z h C n d w) (K : Keep h h' ws) (q : ∀ x ∈ ws, ∀ c : Cell, h[x]? = some c → c.vm.isStatics = false) : Sta Z h' C n d w := by
  obtain ⟨cf, i, k, f, st, cell, h1, h2, h3, h4, h5, h6, h7⟩ := F
  exact ⟨cf, i, k, f, st, cell, h1, h2, h3, h4, K.2.1 st cell h5 (fun m => by rw [q st m cell h5] at h6; cases h6), h6, h7⟩
theorem own_exa_plain {C : String} (F : Exa Z h a C) : ∀ c : Cell, h[a]? = some c → c.vm.isStatics = false := fun c hc => by
  obtain ⟨c1, k, h1, -, -, h4, -⟩ := F; cases h1.symm.trans hc; exact h4
theorem own_AV.plain (F : own_AV Z h a ty z f) : ∀ c : Cell, h[a]? = some c → c.vm.isStatics = false := fun c hc => by
  obtain ⟨_, c1, A, -⟩ := F; cases A.1.symm.trans hc; exact A.plain
end
theorem own_narb {x : Int32} (h : x = 0 ∨ x = 1) : nar .boolean x = x := by rcases h with rfl | rfl <;> rfl
theorem own_exa_ref {args : Array Value} {s : State} {t : Term} {C : String} (hx : (Jvm.Cond.exactly t C).value args s none s [] = some true) : ∃ a, t.eval args s none [] s = some (.ref a) ∧ Exa s s.heap a C := by
  obtain ⟨a', c', cell, k, e1, -⟩ := Cond.exactly_spec (Cond.before_iff.mpr hx)
  exact ⟨a', e1, Exa.start e1 hx⟩
theorem own_eq_int {args : Array Value} {s : State} {t : Term} {k : Int32} (h : (Jvm.Cond.eq t (Jvm.Term.int k)).value args s none s [] = some true) : t.eval args s none [] s = some (.int k) := by
  cases hv : t.eval args s none [] s with
  | none => simp [Cond.value, hv] at h
  | some v => cases v <;> simp [Cond.value, hv, Term.eval] at h <;> simp [h]
theorem own_fld_int {args : Array Value} {s : State} {t : Term} {C n d : String} {a : Addr} {k : Int32} (ev : t.eval args s none [] s = some (.ref a)) (h : (Jvm.Cond.eq (Jvm.Term.field t C n d) (Jvm.Term.int k)).value args s none s [] = some true) : Fld s s.heap a C n d (.int k) :=
  Fld.start ((fld_at ev).symm.trans (own_eq_int h))
theorem own_nar_c (x : Int32) : nar .char (x.toUInt32.toUInt16.toUInt32.toInt32) = x.toUInt32.toUInt16.toUInt32.toInt32 := Value.int.inj (Jvm.Free.XT.narrow_c x)
theorem own_nar_b (x : Int32) : nar .byte (x.toInt8.toInt32) = x.toInt8.toInt32 := Value.int.inj (Jvm.Free.XT.narrow_b x)
theorem own_NSroot {Z : State} {a0 : Array Value} {O K : String} {n : Nat} (w : (Jvm.Cond.noSuperclass O).before a0 Z = true) (wk : (Jvm.Cond.instantiable K n).before a0 Z = true) (hn : O ≠ K) : NS Z O K := by
  obtain ⟨c, k, h1, h2, h3, -, -⟩ := Cond.noSuperclass_spec w
  obtain ⟨t, kt, g1, -⟩ := Cond.instantiable_spec wk
  have ne := ids_ne h1 g1 hn
  refine ⟨c, t, h1, g1, fun fuel => ?_⟩
  cases fuel with
  | zero => rfl
  | succ f => simp [Vm.isSubclassAux, ne, h2, h3]
theorem own_NSno {Z : State} {a0 : Array Value} {C S K : String} {m : Nat} (w : (Jvm.Cond.superclass C S).before a0 Z = true) (wk : (Jvm.Cond.instantiable K m).before a0 Z = true) (n : NS Z C K) (hn : C ≠ K) : ∃ c t, Z.vm.findClass C = some c ∧ Z.vm.findClass K = some t ∧ Z.vm.assignable c t = false := by
  obtain ⟨c, t, h0, g0, n3⟩ := n
  obtain ⟨p, k, kp, h1, h2, h3, h4, h5, -, h7⟩ := Cond.superclass_spec h0 w
  obtain ⟨t', k', g1, g2, g5, g7, -⟩ := Cond.instantiable_spec wk
  cases g0.symm.trans g1
  have g8 : k'.isInterface = false := by
    cases hi : k'.isInterface <;> simp [hi] at g7 ⊢
  have ne := ids_ne h0 g0 hn
  refine ⟨c, t, h0, g0, ?_⟩
  show Z.vm.assignableAux (255 + 1) c t = false
  simp [Vm.assignableAux, ne, h2, g2, h5, g5, g8, Vm.isSubclass, n3]
theorem own_monoW {s t : State} {o : Outcome} {L : List Loc} {k n k' n' : Nat} (h : ReturnedEndW s o t L k n) (hk : k ≤ k') (hn : n ≤ n') : ReturnedEndW s o t L k' n' := ⟨h.1, h.2.1, h.2.2.1, h.2.2.2.mono hk hn⟩
theorem own_ldcSL {p : Program} {l : Launch} {e : Env} {R : Room} {s : State} {vm0 : Vm} {m : MethodId} {args : Array Value} {below : List Frame} {meth : Method} {c : Code} {T : State} {locs : List Loc} {cells slots : Nat} {Z : State} {a0 : Array Value} {h : Heap}
    (X : Stand p l e R (s.setVm vm0) m args below meth c T locs cells slots) (hx : p.tables.exec = Jvm.exec) (hZ : Z.Warmed39 vm0) {own text : String} {index : Nat} (hown : vm0.findClass own = some m.cls) (w : (Jvm.Cond.stringLink own index text).before a0 Z = true) (wS : ∀ a ∈ Bundle.stringAtoms, a.before a0 Z = true)
    (eT : T.heap = h) {k0 : Nat} (hS : s.Since vm0 k0) (hk : k0 ≤ h.size) {g : JFrame} (hg : g.method = m) (hd : decode c.code g.pc = .ok (.ldc index, 2)) {n : Nat} (hn : 4 * text.toList.length ≤ n) (hbig : n ≤ 536870912) (hc : cells + 2 ≤ R.cells) (hl : slots + (n + 4) ≤ R.slots) :
    ∃ (a : Addr) (T' : State) (h' : Heap) (k1 : Nat), Stand p l e R (s.setVm T'.vm) m args below meth c T' locs (cells + 2) (slots + (n + 4)) ∧ T'.heap = h' ∧ Ext h h' ∧ s.Since T'.vm k1 ∧ k1 ≤ h'.size ∧ Z.Warmed39 (s.setVm T'.vm).vm ∧ (s.setVm T'.vm).vm.findClass own = some m.cls ∧ Lit (s.setVm T'.vm) own index a ∧ (s.setVm vm0).Warmed39 T'.vm ∧
      ∀ target, Steps p.tables e below (T'.setTop { g with pc := g.pc + 2, stack := .ref a :: g.stack }) target → Steps p.tables e below (T.setTop g) target := by
  have wS' : ∀ d ∈ Bundle.stringAtoms, d.before args (s.setVm vm0) = true := fun d hd => by
    have q := wS d hd
    simp only [Bundle.stringAtoms, List.mem_cons, List.not_mem_nil, or_false] at hd
    rcases hd with rfl | rfl | rfl | rfl | rfl | rfl | rfl
    · exact mv (s := s.setVm vm0) hZ q
    · exact mv (s := s.setVm vm0) hZ q
    · exact mvA (s := s.setVm vm0) hZ q
    · exact mv (s := s.setVm vm0) hZ q
    · exact mv (s := s.setVm vm0) hZ q
    · exact mv (s := s.setVm vm0) hZ q
    · exact mv (s := s.setVm vm0) hZ q
  obtain ⟨a, T', X', hS', ⟨kk, hkk, hrr⟩, hb, -, st⟩ := X.ldcStringCold hx (own := own) hown (mvS hZ w) wS' hg hd hn hbig hc hl
  subst eT
  have hf : T'.vm.findClass own = some m.cls := by rw [hS'.1.alike.findClass]; exact hown
  exact ⟨a, T', _, _, X', rfl, ext_of hb, hS.trans hS' (Nat.le_trans hk (ext_of hb).1), Nat.le_refl _, State.Warmed39.trans (t := s.setVm vm0) hZ hS'.1, hf, by simp [Lit, State.resolvedAt?, hf, hkk, hrr], hS'.1, st⟩
theorem own_selfsel {Z s : State} {a0 args : Array Value} {y : MethodName} {n : Nat} (hZ : Z.Warmed39 s.vm) (wi : (Jvm.Cond.instantiable y.cls n).before a0 Z = true) (wm : (Jvm.Cond.instanceMethod y).before a0 Z = true) (wp : (Jvm.Cond.privateMethod y).before a0 Z = true) (hy : y.cls ≠ "java/lang/invoke/MethodHandle" ∧ y.cls ≠ "java/lang/invoke/VarHandle") : (Jvm.Cond.selects y.cls y y).before args s = true := by
  obtain ⟨c, k, h1, h2, -, h4, -⟩ := Cond.instantiable_spec (mvT (args := args) hZ wi)
  have g8 : k.isInterface = false := by
    cases hi : k.isInterface <;> simp [hi] at h4 ⊢
  exact selects_self_of_private h1 h2 g8 (Cond.privateMethod_at (mvP hZ wp (args := #[]))) (mvT hZ wm) hy
theorem own_addeq {k a b m n : Nat} (h : k = a + b) (h1 : a = m) (h2 : m + b = n) : k = n := by subst h1; exact h.trans h2
theorem own_lt {a b : Nat} (h : a < b) : a < b := h
theorem own_ne {a b : Nat} (h : a < b ∨ b < a) : a ≠ b := by omega

theorem own_pn0 : plainName "java/lang/Record" = true := by first | (simp [plainName, overriddenIn]; done) | decide +kernel
theorem own_pn1 : plainName "com/example/orderly_storefront/orderlystorefront/order/OrderLine" = true := by first | (simp [plainName, overriddenIn]; done) | decide +kernel
theorem own_pn2 : plainName "com/example/orderly_storefront/orderlystorefront/order/OrderLineLineTotalPinLaw" = true := by first | (simp [plainName, overriddenIn]; done) | decide +kernel
theorem own_pd0 : parseMethodDescriptor "()V" = some ⟨[], none⟩ := by decide +kernel
theorem own_pd1 : parseMethodDescriptor "(J)J" = some ⟨[.long], some .long⟩ := by decide +kernel
theorem own_pd2 : parseMethodDescriptor "(JJ)J" = some ⟨[.long, .long], some .long⟩ := by decide +kernel
theorem own_pd3 : parseMethodDescriptor "(Ljava/lang/String;Ljava/lang/String;Ljava/lang/String;Ljava/lang/String;Ljava/lang/String;JJ)V" = some ⟨[(.object "java/lang/String"), (.object "java/lang/String"), (.object "java/lang/String"), (.object "java/lang/String"), (.object "java/lang/String"), .long, .long], none⟩ := by decide +kernel
theorem own_pd4 : parseMethodDescriptor "()J" = some ⟨[], some .long⟩ := by decide +kernel
theorem own_wS {Z : State} {a0 : Array Value} (hw : ∀ d ∈ tables_1, d.before a0 Z = true) : ∀ a ∈ Bundle.stringAtoms, a.before a0 Z = true := fun d hd => by
  simp only [Bundle.stringAtoms, List.mem_cons, List.not_mem_nil, or_false] at hd
  rcases hd with rfl | rfl | rfl | rfl | rfl | rfl | rfl
  · exact hw _ (List.mem_of_getElem? (i := 4) rfl)
  · exact hw _ (List.mem_of_getElem? (i := 5) rfl)
  · exact hw _ (List.mem_of_getElem? (i := 6) rfl)
  · exact hw _ (List.mem_of_getElem? (i := 7) rfl)
  · exact hw _ (List.mem_of_getElem? (i := 8) rfl)
  · exact hw _ (List.mem_of_getElem? (i := 9) rfl)
  · exact hw _ (List.mem_of_getElem? (i := 10) rfl)
theorem own_mulb {x y A B : Int} (hx : -A ≤ x ∧ x ≤ A) (hy : -B ≤ y ∧ y ≤ B) : -(A * B) ≤ x * y ∧ x * y ≤ A * B := by
  have h : (x * y).natAbs ≤ (A * B).natAbs := by
    rw [Int.natAbs_mul, Int.natAbs_mul]
    exact Nat.mul_le_mul (by omega) (by omega)
  have h0 : 0 ≤ A * B := Int.mul_nonneg (by omega) (by omega)
  omega
theorem own_m255 (c : Int32) : 0 ≤ ((c &&& (255 : Int32)).toInt64).toInt ∧ ((c &&& (255 : Int32)).toInt64).toInt ≤ 255 := by
  rw [c_i2l]
  have h := c_mask c 255 8 (by decide) (by decide)
  omega
theorem own_shr9 (d : Int64) : -18014398509481984 ≤ (d >>> ((9 : Int32) &&& 0x3f).toInt64).toInt ∧ (d >>> ((9 : Int32) &&& 0x3f).toInt64).toInt < 18014398509481984 := by
  have h := c_lshr d 9 9 (by decide)
  have r := rng64 d
  omega
theorem own_i2lb (a : Int32) : -2147483648 ≤ a.toInt64.toInt ∧ a.toInt64.toInt ≤ 2147483648 := by
  rw [c_i2l]; have r := rng32 a; omega
theorem own_nmin {x : Int64} (h : -9223372036854775808 < x.toInt) : ¬ (x = (-9223372036854775808 : Int64)) := fun q => by
  have e : (-9223372036854775808 : Int64).toInt = -9223372036854775808 := by decide
  rw [q, e] at h; omega
theorem own_d2_0 : decode jdk_30_method_1_code 0 = .ok (.aload_n 0, 1) := by decide +kernel
theorem own_d2_1 : decode jdk_30_method_1_code 1 = .ok (.invokespecial 1, 3) := by decide +kernel
theorem own_d2_4 : decode jdk_30_method_1_code 4 = .ok (.return_, 1) := by decide +kernel
theorem own_ef_own_rm2 (m : MethodId) (x0 : Addr) : entryFrame m #[(.ref x0)] 1 = mkF m 0 #[.val (.ref x0)] [] := by first | (simp [entryFrame, mkF, argsToLocals, Value.category]; done) | rfl
def own_Q2 (Z : State) (a_1 : Addr) (h0 : Heap) (n0 : Nat) (v : Option Value) (h : Heap) (L : List Loc) : Prop := v = none ∧ Fr n0 L ∧ h = h0
set_option maxRecDepth 65536 in
set_option maxHeartbeats 40000000 in
theorem own_rm2 (l : Launch) (Z : State) (a0 : Array Value) (hw : ∀ d ∈ tables_1, d.before a0 Z = true) (ws : List Jvm.Cond) (a_1 : Addr) (h0 : Heap) (n0 : Nat) (Z0 : n0 ≤ h0.size) :
    MetFree l (⟨"java/lang/Record", "<init>", "()V"⟩ : MethodName) (head1 (Jvm.Cond.code (⟨"java/lang/Record", "<init>", "()V"⟩ : MethodName) jdk_30_method_1_code 1 none :: ws) ({ frames := 1, cells := 0, slots := 0, locals := 12 } : Room)) (fun a U => a = #[(.ref a_1)] ∧ Z.Warmed39 U.vm ∧ U.heap = h0) (fun _ _ _ _ _ => True) (fun _ U o U' => ∃ v L, o = .returned v ∧ own_Q2 Z a_1 h0 n0 v U'.heap L ∧ FrameEnd U o U' L ({ frames := 1, cells := 0, slots := 0, locals := 12 } : Room).cells ({ frames := 1, cells := 0, slots := 0, locals := 12 } : Room).slots) := by
  refine MetFree.of_bodySF (plainFor_of_name own_pn0) hisR ?_
  intro p e s m args below meth c s₁ Bd hml0 hP hK
  obtain ⟨rfl, hZ, hh⟩ := hP
  have hx := Bd.exec
  have hby := Bd.bytes
  have hml : c.maxLocals = 1 := hml0
  have hown : s.vm.findClass "java/lang/Record" = some m.cls := findClass_of_methodNamed Bd.named
  have hnm := (name_of_methodNamed Bd.named Bd.method).1
  have X0 : Stand p l e ({ frames := 1, cells := 0, slots := 0, locals := 12 } : Room) s m #[(.ref a_1)] below meth c s₁ [] 0 0 := Stand.of_body Bd
  have e0 : s₁.heap = h0 := by rw [← hh, Bd.state]; rfl
  have N0 := Fr.nil n0
  have z0 : n0 ≤ h0.size := Z0
  show own_Go p.tables e below (fun t o => t.status = .running ∧ Ended t below o ∧ ∃ v L, o = .returned v ∧ own_Q2 Z a_1 h0 n0 v t.heap L ∧ FrameEnd s o t L ({ frames := 1, cells := 0, slots := 0, locals := 12 } : Room).cells ({ frames := 1, cells := 0, slots := 0, locals := 12 } : Room).slots) s₁ (entryFrame m #[(.ref a_1)] 1)
  rw [own_ef_own_rm2 m a_1]
  show own_Go _ _ _ _ s₁ (mkF m 0 #[.val (.ref a_1)] [])
  refine own_go (fun _ k => XS.aloadN X0.here hx rfl (hb hby own_d2_0) rfl rfl k) ?_
  show own_Go _ _ _ _ s₁ (mkF m 1 #[.val (.ref a_1)] [(.ref a_1)])
  obtain ⟨T1, X1, e1, st1⟩ := initO X0 hx hZ hown (hw _ (List.mem_of_getElem? (i := 22) rfl)) (hw _ (List.mem_of_getElem? (i := 23) rfl)) (hw _ (List.mem_of_getElem? (i := 24) rfl)) e0 (g := (mkF m 1 #[.val (.ref a_1)] [(.ref a_1)])) rfl (by rw [hml]; rfl) rfl (hb hby own_d2_1) (by decide) (W := 0) (by show 2 * 0 + _ ≤ _; exact Nat.le_of_eq rfl) (by decide)
  refine own_go (fun _ k => st1 _ k) ?_
  show own_Go _ _ _ _ T1 (mkF m 4 #[.val (.ref a_1)] [])
  obtain ⟨fs, hr, hrun, hended, hW, hsame⟩ := X1.leave (v := none) (fun _ => rfl)
  refine ⟨_, _, X1.returnOut hx Bd.returns (hb hby own_d2_4) hr, hrun, hended, _, _, rfl, ?_, ⟨_, rfl⟩, hW, hsame.mono (by decide) (by decide)⟩
  show own_Q2 Z a_1 h0 n0 _ T1.heap _
  rw [e1]
  exact ⟨rfl, N0, rfl⟩
theorem own_d1_0 : decode prog_38_method_1_code 0 = .ok (.aload_n 0, 1) := by decide +kernel
theorem own_d1_1 : decode prog_38_method_1_code 1 = .ok (.invokespecial 1, 3) := by decide +kernel
theorem own_d1_4 : decode prog_38_method_1_code 4 = .ok (.aload_n 0, 1) := by decide +kernel
theorem own_d1_5 : decode prog_38_method_1_code 5 = .ok (.aload_n 1, 1) := by decide +kernel
theorem own_d1_6 : decode prog_38_method_1_code 6 = .ok (.putfield 7, 3) := by decide +kernel
theorem own_d1_9 : decode prog_38_method_1_code 9 = .ok (.aload_n 0, 1) := by decide +kernel
theorem own_d1_10 : decode prog_38_method_1_code 10 = .ok (.aload_n 2, 1) := by decide +kernel
theorem own_d1_11 : decode prog_38_method_1_code 11 = .ok (.putfield 13, 3) := by decide +kernel
theorem own_d1_14 : decode prog_38_method_1_code 14 = .ok (.aload_n 0, 1) := by decide +kernel
theorem own_d1_15 : decode prog_38_method_1_code 15 = .ok (.aload_n 3, 1) := by decide +kernel
theorem own_d1_16 : decode prog_38_method_1_code 16 = .ok (.putfield 16, 3) := by decide +kernel
theorem own_d1_19 : decode prog_38_method_1_code 19 = .ok (.aload_n 0, 1) := by decide +kernel
theorem own_d1_20 : decode prog_38_method_1_code 20 = .ok (.aload 4, 2) := by decide +kernel
theorem own_d1_22 : decode prog_38_method_1_code 22 = .ok (.putfield 19, 3) := by decide +kernel
theorem own_d1_25 : decode prog_38_method_1_code 25 = .ok (.aload_n 0, 1) := by decide +kernel
theorem own_d1_26 : decode prog_38_method_1_code 26 = .ok (.aload 5, 2) := by decide +kernel
theorem own_d1_28 : decode prog_38_method_1_code 28 = .ok (.putfield 22, 3) := by decide +kernel
theorem own_d1_31 : decode prog_38_method_1_code 31 = .ok (.aload_n 0, 1) := by decide +kernel
theorem own_d1_32 : decode prog_38_method_1_code 32 = .ok (.lload 6, 2) := by decide +kernel
theorem own_d1_34 : decode prog_38_method_1_code 34 = .ok (.putfield 25, 3) := by decide +kernel
theorem own_d1_37 : decode prog_38_method_1_code 37 = .ok (.aload_n 0, 1) := by decide +kernel
theorem own_d1_38 : decode prog_38_method_1_code 38 = .ok (.lload 8, 2) := by decide +kernel
theorem own_d1_40 : decode prog_38_method_1_code 40 = .ok (.putfield 29, 3) := by decide +kernel
theorem own_d1_43 : decode prog_38_method_1_code 43 = .ok (.return_, 1) := by decide +kernel
theorem own_ef_own_rm1n (m : MethodId) (x0 : Addr) (x1 : Addr) (x2 : Addr) (x4 : Addr) (x5 : Addr) (x6 : Int64) (x7 : Int64) : entryFrame m #[(.ref x0), (.ref x1), (.ref x2), .null, (.ref x4), (.ref x5), (.long x6), (.long x7)] 10 = mkF m 0 #[.val (.ref x0), .val (.ref x1), .val (.ref x2), .val .null, .val (.ref x4), .val (.ref x5), .val (.long x6), .second, .val (.long x7), .second] [] := by first | (simp [entryFrame, mkF, argsToLocals, Value.category]; done) | rfl
def own_Q1n (Z : State) (a_1 : Addr) (a_2 : Addr) (a_3 : Addr) (a_5 : Addr) (a_6 : Addr) (q_7 : Int64) (q_8 : Int64) (w_id_a_1 : Value) (w_variantId_a_1 : Value) (w_sku_a_1 : Value) (w_productTitle_a_1 : Value) (w_variantTitle_a_1 : Value) (w_quantity_a_1 : Int64) (w_unitPrice_a_1 : Int64) (h0 : Heap) (n0 : Nat) (v : Option Value) (h : Heap) (L : List Loc) : Prop := v = none ∧ Fr n0 L ∧ Keep h0 h [a_1] ∧ Exa Z h a_1 "com/example/orderly_storefront/orderlystorefront/order/OrderLine" ∧ Fld Z h a_1 "com/example/orderly_storefront/orderlystorefront/order/OrderLine" "id" "Ljava/lang/String;" (.ref a_2) ∧ Fld Z h a_1 "com/example/orderly_storefront/orderlystorefront/order/OrderLine" "variantId" "Ljava/lang/String;" (.ref a_3) ∧ Fld Z h a_1 "com/example/orderly_storefront/orderlystorefront/order/OrderLine" "sku" "Ljava/lang/String;" .null ∧ Fld Z h a_1 "com/example/orderly_storefront/orderlystorefront/order/OrderLine" "productTitle" "Ljava/lang/String;" (.ref a_5) ∧ Fld Z h a_1 "com/example/orderly_storefront/orderlystorefront/order/OrderLine" "variantTitle" "Ljava/lang/String;" (.ref a_6) ∧ Fld Z h a_1 "com/example/orderly_storefront/orderlystorefront/order/OrderLine" "quantity" "J" (.long q_7) ∧ Fld Z h a_1 "com/example/orderly_storefront/orderlystorefront/order/OrderLine" "unitPrice" "J" (.long q_8)
set_option maxRecDepth 65536 in
set_option maxHeartbeats 40000000 in
theorem own_rm1n (l : Launch) (Z : State) (a0 : Array Value) (hw : ∀ d ∈ tables_1, d.before a0 Z = true) (ws : List Jvm.Cond) (a_1 : Addr) (a_2 : Addr) (a_3 : Addr) (a_5 : Addr) (a_6 : Addr) (q_7 : Int64) (q_8 : Int64) (w_id_a_1 : Value) (w_variantId_a_1 : Value) (w_sku_a_1 : Value) (w_productTitle_a_1 : Value) (w_variantTitle_a_1 : Value) (w_quantity_a_1 : Int64) (w_unitPrice_a_1 : Int64) (h0 : Heap) (n0 : Nat) (Z0 : n0 ≤ h0.size) (pr_E_a_1 : Exa Z h0 a_1 "com/example/orderly_storefront/orderlystorefront/order/OrderLine") (pr_F_a_1_id : Fld Z h0 a_1 "com/example/orderly_storefront/orderlystorefront/order/OrderLine" "id" "Ljava/lang/String;" w_id_a_1) (pr_F_a_1_variantId : Fld Z h0 a_1 "com/example/orderly_storefront/orderlystorefront/order/OrderLine" "variantId" "Ljava/lang/String;" w_variantId_a_1) (pr_F_a_1_sku : Fld Z h0 a_1 "com/example/orderly_storefront/orderlystorefront/order/OrderLine" "sku" "Ljava/lang/String;" w_sku_a_1) (pr_F_a_1_productTitle : Fld Z h0 a_1 "com/example/orderly_storefront/orderlystorefront/order/OrderLine" "productTitle" "Ljava/lang/String;" w_productTitle_a_1) (pr_F_a_1_variantTitle : Fld Z h0 a_1 "com/example/orderly_storefront/orderlystorefront/order/OrderLine" "variantTitle" "Ljava/lang/String;" w_variantTitle_a_1) (pr_F_a_1_quantity : Fld Z h0 a_1 "com/example/orderly_storefront/orderlystorefront/order/OrderLine" "quantity" "J" (.long w_quantity_a_1)) (pr_F_a_1_unitPrice : Fld Z h0 a_1 "com/example/orderly_storefront/orderlystorefront/order/OrderLine" "unitPrice" "J" (.long w_unitPrice_a_1)) (gw_a_1 : n0 ≤ a_1) :
    MetFree l (⟨"com/example/orderly_storefront/orderlystorefront/order/OrderLine", "<init>", "(Ljava/lang/String;Ljava/lang/String;Ljava/lang/String;Ljava/lang/String;Ljava/lang/String;JJ)V"⟩ : MethodName) (head1 (Jvm.Cond.code (⟨"com/example/orderly_storefront/orderlystorefront/order/OrderLine", "<init>", "(Ljava/lang/String;Ljava/lang/String;Ljava/lang/String;Ljava/lang/String;Ljava/lang/String;JJ)V"⟩ : MethodName) prog_38_method_1_code 10 none :: ws) ({ frames := 2, cells := 0, slots := 0, locals := 24 } : Room)) (fun a U => a = #[(.ref a_1), (.ref a_2), (.ref a_3), .null, (.ref a_5), (.ref a_6), (.long q_7), (.long q_8)] ∧ Z.Warmed39 U.vm ∧ U.heap = h0) (fun _ _ _ _ _ => True) (fun _ U o U' => ∃ v L, o = .returned v ∧ own_Q1n Z a_1 a_2 a_3 a_5 a_6 q_7 q_8 w_id_a_1 w_variantId_a_1 w_sku_a_1 w_productTitle_a_1 w_variantTitle_a_1 w_quantity_a_1 w_unitPrice_a_1 h0 n0 v U'.heap L ∧ FrameEnd U o U' L ({ frames := 2, cells := 0, slots := 0, locals := 24 } : Room).cells ({ frames := 2, cells := 0, slots := 0, locals := 24 } : Room).slots) := by
  refine MetFree.of_bodySF (plainFor_of_name own_pn1) hisR ?_
  intro p e s m args below meth c s₁ Bd hml0 hP hK
  obtain ⟨rfl, hZ, hh⟩ := hP
  have hx := Bd.exec
  have hby := Bd.bytes
  have hml : c.maxLocals = 10 := hml0
  have hown : s.vm.findClass "com/example/orderly_storefront/orderlystorefront/order/OrderLine" = some m.cls := findClass_of_methodNamed Bd.named
  have hnm := (name_of_methodNamed Bd.named Bd.method).1
  have X0 : Stand p l e ({ frames := 2, cells := 0, slots := 0, locals := 24 } : Room) s m #[(.ref a_1), (.ref a_2), (.ref a_3), .null, (.ref a_5), (.ref a_6), (.long q_7), (.long q_8)] below meth c s₁ [] 0 0 := Stand.of_body Bd
  have e0 : s₁.heap = h0 := by rw [← hh, Bd.state]; rfl
  have N0 := Fr.nil n0
  have z0 : n0 ≤ h0.size := Z0
  have z1 := own_lt pr_E_a_1.lt
  have z2 := own_lt pr_F_a_1_id.lt
  have z3 := own_lt pr_F_a_1_variantId.lt
  have z4 := own_lt pr_F_a_1_sku.lt
  have z5 := own_lt pr_F_a_1_productTitle.lt
  have z6 := own_lt pr_F_a_1_variantTitle.lt
  have z7 := own_lt pr_F_a_1_quantity.lt
  have z8 := own_lt pr_F_a_1_unitPrice.lt
  have K0 : Keep h0 h0 [a_1] := Keep.refl h0 _
  show own_Go p.tables e below (fun t o => t.status = .running ∧ Ended t below o ∧ ∃ v L, o = .returned v ∧ own_Q1n Z a_1 a_2 a_3 a_5 a_6 q_7 q_8 w_id_a_1 w_variantId_a_1 w_sku_a_1 w_productTitle_a_1 w_variantTitle_a_1 w_quantity_a_1 w_unitPrice_a_1 h0 n0 v t.heap L ∧ FrameEnd s o t L ({ frames := 2, cells := 0, slots := 0, locals := 24 } : Room).cells ({ frames := 2, cells := 0, slots := 0, locals := 24 } : Room).slots) s₁ (entryFrame m #[(.ref a_1), (.ref a_2), (.ref a_3), .null, (.ref a_5), (.ref a_6), (.long q_7), (.long q_8)] 10)
  rw [own_ef_own_rm1n m a_1 a_2 a_3 a_5 a_6 q_7 q_8]
  show own_Go _ _ _ _ s₁ (mkF m 0 #[.val (.ref a_1), .val (.ref a_2), .val (.ref a_3), .val .null, .val (.ref a_5), .val (.ref a_6), .val (.long q_7), .second, .val (.long q_8), .second] [])
  refine own_go (fun _ k => XS.aloadN X0.here hx rfl (hb hby own_d1_0) rfl rfl k) ?_
  show own_Go _ _ _ _ s₁ (mkF m 1 #[.val (.ref a_1), .val (.ref a_2), .val (.ref a_3), .val .null, .val (.ref a_5), .val (.ref a_6), .val (.long q_7), .second, .val (.long q_8), .second] [(.ref a_1)])
  obtain ⟨_, _, ⟨T9, L9, k9, n9⟩, -, X9, ⟨Lc9, hQ9, l9, y9, z9⟩, st9⟩ := X0.specialBack hx (y := (⟨"java/lang/Record", "<init>", "()V"⟩ : MethodName)) rfl hown (mvT hZ (hw _ (List.mem_of_getElem? (i := 17) rfl))) (mvT hZ (hw _ (List.mem_of_getElem? (i := 18) rfl))) (mvT hZ (hw _ (List.mem_of_getElem? (i := 21) rfl))) (by decide) (backOf (W := 0) (own_rm2 l Z a0 hw [] a_1  h0 n0 (by omega) ) hZ (hw _ (List.mem_of_getElem? (i := 21) rfl)) (hw _ (List.mem_of_getElem? (i := 20) rfl)) (by decide) (by decide)) (g := (mkF m 1 #[.val (.ref a_1), .val (.ref a_2), .val (.ref a_3), .val .null, .val (.ref a_5), .val (.ref a_6), .val (.long q_7), .second, .val (.long q_8), .second] [(.ref a_1)])) rfl (by rw [hml]; rfl) (Steps.refl _) (a := a_1) (argsL := []) (rest := []) (lenOf own_pd0 rfl) rfl (by show 2 * 0 + _ ≤ _; exact Nat.le_of_eq rfl) (hb hby own_d1_1) (fun _ _ => ⟨rfl, e0, (by decide : 0 + 0 ≤ _), (by decide : 0 + 0 ≤ _)⟩)
  dsimp only [Pt.U, Pt.locs, Pt.cells, Pt.slots] at X9 l9 y9 z9 st9 hQ9
  have y9 : k9 = 0 := y9
  have z9 : n9 = 0 := z9
  obtain ⟨rfl, N9q, e9⟩ := hQ9
  have N9 : Fr n0 L9 := by rw [l9]; exact Fr.app N0 N9q
  refine own_go (fun _ k => st9.trans k) ?_
  show own_Go _ _ _ _ T9 (mkF m 4 #[.val (.ref a_1), .val (.ref a_2), .val (.ref a_3), .val .null, .val (.ref a_5), .val (.ref a_6), .val (.long q_7), .second, .val (.long q_8), .second] [])
  refine own_go (fun _ k => XS.aloadN X9.here hx rfl (hb hby own_d1_4) rfl rfl k) ?_
  show own_Go _ _ _ _ T9 (mkF m 5 #[.val (.ref a_1), .val (.ref a_2), .val (.ref a_3), .val .null, .val (.ref a_5), .val (.ref a_6), .val (.long q_7), .second, .val (.long q_8), .second] [(.ref a_1)])
  refine own_go (fun _ k => XS.aloadN X9.here hx rfl (hb hby own_d1_5) rfl rfl k) ?_
  show own_Go _ _ _ _ T9 (mkF m 6 #[.val (.ref a_1), .val (.ref a_2), .val (.ref a_3), .val .null, .val (.ref a_5), .val (.ref a_6), .val (.long q_7), .second, .val (.long q_8), .second] [(.ref a_2), (.ref a_1)])
  obtain ⟨T10, h10, X10, e10, W10, st10⟩ := putF X9 hx hZ hown (host := "") (Or.inl (hw _ (List.mem_of_getElem? (i := 25) rfl))) Via.refl e9 pr_F_a_1_id pr_E_a_1 (Or.inr ⟨(hw _ (List.mem_of_getElem? (i := 26) rfl)), rfl, hnm⟩) (hw _ (List.mem_of_getElem? (i := 1) rfl)) (ty := (.object "java/lang/String")) (by decide) rfl rfl (g := (mkF m 6 #[.val (.ref a_1), .val (.ref a_2), .val (.ref a_3), .val .null, .val (.ref a_5), .val (.ref a_6), .val (.long q_7), .second, .val (.long q_8), .second] [(.ref a_2), (.ref a_1)])) rfl rfl (hb hby own_d1_6)
  have z11 := W10.size
  have K10 : Keep h0 h10 [a_1] := K0.wr W10 (Or.inl (List.mem_of_getElem? (i := 0) rfl))
  have N10 := Fr.snoc X10 N9 (by omega : n0 ≤ a_1)
  have Fw10 : Fld Z h10 a_1 "com/example/orderly_storefront/orderlystorefront/order/OrderLine" "id" "Ljava/lang/String;" (.ref a_2) := Fld.same W10 pr_F_a_1_id
  refine own_go (fun _ k => st10 _ k) ?_
  show own_Go _ _ _ _ T10 (mkF m 9 #[.val (.ref a_1), .val (.ref a_2), .val (.ref a_3), .val .null, .val (.ref a_5), .val (.ref a_6), .val (.long q_7), .second, .val (.long q_8), .second] [])
  refine own_go (fun _ k => XS.aloadN X10.here hx rfl (hb hby own_d1_9) rfl rfl k) ?_
  show own_Go _ _ _ _ T10 (mkF m 10 #[.val (.ref a_1), .val (.ref a_2), .val (.ref a_3), .val .null, .val (.ref a_5), .val (.ref a_6), .val (.long q_7), .second, .val (.long q_8), .second] [(.ref a_1)])
  refine own_go (fun _ k => XS.aloadN X10.here hx rfl (hb hby own_d1_10) rfl rfl k) ?_
  show own_Go _ _ _ _ T10 (mkF m 11 #[.val (.ref a_1), .val (.ref a_2), .val (.ref a_3), .val .null, .val (.ref a_5), .val (.ref a_6), .val (.long q_7), .second, .val (.long q_8), .second] [(.ref a_3), (.ref a_1)])
  have f12 : Exa Z h10 a_1 "com/example/orderly_storefront/orderlystorefront/order/OrderLine" := (pr_E_a_1.wr W10)
  have f13 : Fld Z h10 a_1 "com/example/orderly_storefront/orderlystorefront/order/OrderLine" "variantId" "Ljava/lang/String;" w_variantId_a_1 := (pr_F_a_1_variantId.other W10 (Or.inr (slot_ne (Or.inr (hw _ (List.mem_of_getElem? (i := 28) rfl))) (Or.inr (hw _ (List.mem_of_getElem? (i := 26) rfl))) (by decide) (t := (.object "java/lang/String")) (t' := (.object "java/lang/String")) (by decide) (by decide))))
  obtain ⟨T14, h14, X14, e14, W14, st14⟩ := putF X10 hx hZ hown (host := "") (Or.inl (hw _ (List.mem_of_getElem? (i := 27) rfl))) Via.refl e10 f13 f12 (Or.inr ⟨(hw _ (List.mem_of_getElem? (i := 28) rfl)), rfl, hnm⟩) (hw _ (List.mem_of_getElem? (i := 1) rfl)) (ty := (.object "java/lang/String")) (by decide) rfl rfl (g := (mkF m 11 #[.val (.ref a_1), .val (.ref a_2), .val (.ref a_3), .val .null, .val (.ref a_5), .val (.ref a_6), .val (.long q_7), .second, .val (.long q_8), .second] [(.ref a_3), (.ref a_1)])) rfl rfl (hb hby own_d1_11)
  have z15 := W14.size
  have K14 : Keep h0 h14 [a_1] := K10.wr W14 (Or.inl (List.mem_of_getElem? (i := 0) rfl))
  have N14 := Fr.snoc X14 N10 (by omega : n0 ≤ a_1)
  have Fw14 : Fld Z h14 a_1 "com/example/orderly_storefront/orderlystorefront/order/OrderLine" "variantId" "Ljava/lang/String;" (.ref a_3) := Fld.same W14 f13
  refine own_go (fun _ k => st14 _ k) ?_
  show own_Go _ _ _ _ T14 (mkF m 14 #[.val (.ref a_1), .val (.ref a_2), .val (.ref a_3), .val .null, .val (.ref a_5), .val (.ref a_6), .val (.long q_7), .second, .val (.long q_8), .second] [])
  refine own_go (fun _ k => XS.aloadN X14.here hx rfl (hb hby own_d1_14) rfl rfl k) ?_
  show own_Go _ _ _ _ T14 (mkF m 15 #[.val (.ref a_1), .val (.ref a_2), .val (.ref a_3), .val .null, .val (.ref a_5), .val (.ref a_6), .val (.long q_7), .second, .val (.long q_8), .second] [(.ref a_1)])
  refine own_go (fun _ k => XS.aloadN X14.here hx rfl (hb hby own_d1_15) rfl rfl k) ?_
  show own_Go _ _ _ _ T14 (mkF m 16 #[.val (.ref a_1), .val (.ref a_2), .val (.ref a_3), .val .null, .val (.ref a_5), .val (.ref a_6), .val (.long q_7), .second, .val (.long q_8), .second] [.null, (.ref a_1)])
  have f16 : Exa Z h14 a_1 "com/example/orderly_storefront/orderlystorefront/order/OrderLine" := (f12.wr W14)
  have f17 : Fld Z h14 a_1 "com/example/orderly_storefront/orderlystorefront/order/OrderLine" "sku" "Ljava/lang/String;" w_sku_a_1 := ((pr_F_a_1_sku.other W10 (Or.inr (slot_ne (Or.inr (hw _ (List.mem_of_getElem? (i := 30) rfl))) (Or.inr (hw _ (List.mem_of_getElem? (i := 26) rfl))) (by decide) (t := (.object "java/lang/String")) (t' := (.object "java/lang/String")) (by decide) (by decide)))).other W14 (Or.inr (slot_ne (Or.inr (hw _ (List.mem_of_getElem? (i := 30) rfl))) (Or.inr (hw _ (List.mem_of_getElem? (i := 28) rfl))) (by decide) (t := (.object "java/lang/String")) (t' := (.object "java/lang/String")) (by decide) (by decide))))
  obtain ⟨T18, h18, X18, e18, W18, st18⟩ := putF X14 hx hZ hown (host := "") (Or.inl (hw _ (List.mem_of_getElem? (i := 29) rfl))) Via.refl e14 f17 f16 (Or.inr ⟨(hw _ (List.mem_of_getElem? (i := 30) rfl)), rfl, hnm⟩) (hw _ (List.mem_of_getElem? (i := 1) rfl)) (ty := (.object "java/lang/String")) (by decide) rfl rfl (g := (mkF m 16 #[.val (.ref a_1), .val (.ref a_2), .val (.ref a_3), .val .null, .val (.ref a_5), .val (.ref a_6), .val (.long q_7), .second, .val (.long q_8), .second] [.null, (.ref a_1)])) rfl rfl (hb hby own_d1_16)
  have z19 := W18.size
  have K18 : Keep h0 h18 [a_1] := K14.wr W18 (Or.inl (List.mem_of_getElem? (i := 0) rfl))
  have N18 := Fr.snoc X18 N14 (by omega : n0 ≤ a_1)
  have Fw18 : Fld Z h18 a_1 "com/example/orderly_storefront/orderlystorefront/order/OrderLine" "sku" "Ljava/lang/String;" .null := Fld.same W18 f17
  refine own_go (fun _ k => st18 _ k) ?_
  show own_Go _ _ _ _ T18 (mkF m 19 #[.val (.ref a_1), .val (.ref a_2), .val (.ref a_3), .val .null, .val (.ref a_5), .val (.ref a_6), .val (.long q_7), .second, .val (.long q_8), .second] [])
  refine own_go (fun _ k => XS.aloadN X18.here hx rfl (hb hby own_d1_19) rfl rfl k) ?_
  show own_Go _ _ _ _ T18 (mkF m 20 #[.val (.ref a_1), .val (.ref a_2), .val (.ref a_3), .val .null, .val (.ref a_5), .val (.ref a_6), .val (.long q_7), .second, .val (.long q_8), .second] [(.ref a_1)])
  refine own_go (fun _ k => XS.aload X18.here hx rfl (hb hby own_d1_20) rfl rfl k) ?_
  show own_Go _ _ _ _ T18 (mkF m 22 #[.val (.ref a_1), .val (.ref a_2), .val (.ref a_3), .val .null, .val (.ref a_5), .val (.ref a_6), .val (.long q_7), .second, .val (.long q_8), .second] [(.ref a_5), (.ref a_1)])
  have f20 : Exa Z h18 a_1 "com/example/orderly_storefront/orderlystorefront/order/OrderLine" := (f16.wr W18)
  have f21 : Fld Z h18 a_1 "com/example/orderly_storefront/orderlystorefront/order/OrderLine" "productTitle" "Ljava/lang/String;" w_productTitle_a_1 := (((pr_F_a_1_productTitle.other W10 (Or.inr (slot_ne (Or.inr (hw _ (List.mem_of_getElem? (i := 32) rfl))) (Or.inr (hw _ (List.mem_of_getElem? (i := 26) rfl))) (by decide) (t := (.object "java/lang/String")) (t' := (.object "java/lang/String")) (by decide) (by decide)))).other W14 (Or.inr (slot_ne (Or.inr (hw _ (List.mem_of_getElem? (i := 32) rfl))) (Or.inr (hw _ (List.mem_of_getElem? (i := 28) rfl))) (by decide) (t := (.object "java/lang/String")) (t' := (.object "java/lang/String")) (by decide) (by decide)))).other W18 (Or.inr (slot_ne (Or.inr (hw _ (List.mem_of_getElem? (i := 32) rfl))) (Or.inr (hw _ (List.mem_of_getElem? (i := 30) rfl))) (by decide) (t := (.object "java/lang/String")) (t' := (.object "java/lang/String")) (by decide) (by decide))))
  obtain ⟨T22, h22, X22, e22, W22, st22⟩ := putF X18 hx hZ hown (host := "") (Or.inl (hw _ (List.mem_of_getElem? (i := 31) rfl))) Via.refl e18 f21 f20 (Or.inr ⟨(hw _ (List.mem_of_getElem? (i := 32) rfl)), rfl, hnm⟩) (hw _ (List.mem_of_getElem? (i := 1) rfl)) (ty := (.object "java/lang/String")) (by decide) rfl rfl (g := (mkF m 22 #[.val (.ref a_1), .val (.ref a_2), .val (.ref a_3), .val .null, .val (.ref a_5), .val (.ref a_6), .val (.long q_7), .second, .val (.long q_8), .second] [(.ref a_5), (.ref a_1)])) rfl rfl (hb hby own_d1_22)
  have z23 := W22.size
  have K22 : Keep h0 h22 [a_1] := K18.wr W22 (Or.inl (List.mem_of_getElem? (i := 0) rfl))
  have N22 := Fr.snoc X22 N18 (by omega : n0 ≤ a_1)
  have Fw22 : Fld Z h22 a_1 "com/example/orderly_storefront/orderlystorefront/order/OrderLine" "productTitle" "Ljava/lang/String;" (.ref a_5) := Fld.same W22 f21
  refine own_go (fun _ k => st22 _ k) ?_
  show own_Go _ _ _ _ T22 (mkF m 25 #[.val (.ref a_1), .val (.ref a_2), .val (.ref a_3), .val .null, .val (.ref a_5), .val (.ref a_6), .val (.long q_7), .second, .val (.long q_8), .second] [])
  refine own_go (fun _ k => XS.aloadN X22.here hx rfl (hb hby own_d1_25) rfl rfl k) ?_
  show own_Go _ _ _ _ T22 (mkF m 26 #[.val (.ref a_1), .val (.ref a_2), .val (.ref a_3), .val .null, .val (.ref a_5), .val (.ref a_6), .val (.long q_7), .second, .val (.long q_8), .second] [(.ref a_1)])
  refine own_go (fun _ k => XS.aload X22.here hx rfl (hb hby own_d1_26) rfl rfl k) ?_
  show own_Go _ _ _ _ T22 (mkF m 28 #[.val (.ref a_1), .val (.ref a_2), .val (.ref a_3), .val .null, .val (.ref a_5), .val (.ref a_6), .val (.long q_7), .second, .val (.long q_8), .second] [(.ref a_6), (.ref a_1)])
  have f24 : Exa Z h22 a_1 "com/example/orderly_storefront/orderlystorefront/order/OrderLine" := (f20.wr W22)
  have f25 : Fld Z h22 a_1 "com/example/orderly_storefront/orderlystorefront/order/OrderLine" "variantTitle" "Ljava/lang/String;" w_variantTitle_a_1 := ((((pr_F_a_1_variantTitle.other W10 (Or.inr (slot_ne (Or.inr (hw _ (List.mem_of_getElem? (i := 34) rfl))) (Or.inr (hw _ (List.mem_of_getElem? (i := 26) rfl))) (by decide) (t := (.object "java/lang/String")) (t' := (.object "java/lang/String")) (by decide) (by decide)))).other W14 (Or.inr (slot_ne (Or.inr (hw _ (List.mem_of_getElem? (i := 34) rfl))) (Or.inr (hw _ (List.mem_of_getElem? (i := 28) rfl))) (by decide) (t := (.object "java/lang/String")) (t' := (.object "java/lang/String")) (by decide) (by decide)))).other W18 (Or.inr (slot_ne (Or.inr (hw _ (List.mem_of_getElem? (i := 34) rfl))) (Or.inr (hw _ (List.mem_of_getElem? (i := 30) rfl))) (by decide) (t := (.object "java/lang/String")) (t' := (.object "java/lang/String")) (by decide) (by decide)))).other W22 (Or.inr (slot_ne (Or.inr (hw _ (List.mem_of_getElem? (i := 34) rfl))) (Or.inr (hw _ (List.mem_of_getElem? (i := 32) rfl))) (by decide) (t := (.object "java/lang/String")) (t' := (.object "java/lang/String")) (by decide) (by decide))))
  obtain ⟨T26, h26, X26, e26, W26, st26⟩ := putF X22 hx hZ hown (host := "") (Or.inl (hw _ (List.mem_of_getElem? (i := 33) rfl))) Via.refl e22 f25 f24 (Or.inr ⟨(hw _ (List.mem_of_getElem? (i := 34) rfl)), rfl, hnm⟩) (hw _ (List.mem_of_getElem? (i := 1) rfl)) (ty := (.object "java/lang/String")) (by decide) rfl rfl (g := (mkF m 28 #[.val (.ref a_1), .val (.ref a_2), .val (.ref a_3), .val .null, .val (.ref a_5), .val (.ref a_6), .val (.long q_7), .second, .val (.long q_8), .second] [(.ref a_6), (.ref a_1)])) rfl rfl (hb hby own_d1_28)
  have z27 := W26.size
  have K26 : Keep h0 h26 [a_1] := K22.wr W26 (Or.inl (List.mem_of_getElem? (i := 0) rfl))
  have N26 := Fr.snoc X26 N22 (by omega : n0 ≤ a_1)
  have Fw26 : Fld Z h26 a_1 "com/example/orderly_storefront/orderlystorefront/order/OrderLine" "variantTitle" "Ljava/lang/String;" (.ref a_6) := Fld.same W26 f25
  refine own_go (fun _ k => st26 _ k) ?_
  show own_Go _ _ _ _ T26 (mkF m 31 #[.val (.ref a_1), .val (.ref a_2), .val (.ref a_3), .val .null, .val (.ref a_5), .val (.ref a_6), .val (.long q_7), .second, .val (.long q_8), .second] [])
  refine own_go (fun _ k => XS.aloadN X26.here hx rfl (hb hby own_d1_31) rfl rfl k) ?_
  show own_Go _ _ _ _ T26 (mkF m 32 #[.val (.ref a_1), .val (.ref a_2), .val (.ref a_3), .val .null, .val (.ref a_5), .val (.ref a_6), .val (.long q_7), .second, .val (.long q_8), .second] [(.ref a_1)])
  refine own_go (fun _ k => XS.lload X26.here hx rfl (hb hby own_d1_32) rfl k) ?_
  show own_Go _ _ _ _ T26 (mkF m 34 #[.val (.ref a_1), .val (.ref a_2), .val (.ref a_3), .val .null, .val (.ref a_5), .val (.ref a_6), .val (.long q_7), .second, .val (.long q_8), .second] [(.long q_7), (.ref a_1)])
  have f28 : Exa Z h26 a_1 "com/example/orderly_storefront/orderlystorefront/order/OrderLine" := (f24.wr W26)
  have f29 : Fld Z h26 a_1 "com/example/orderly_storefront/orderlystorefront/order/OrderLine" "quantity" "J" (.long w_quantity_a_1) := (((((pr_F_a_1_quantity.other W10 (Or.inr (slot_ne (Or.inr (hw _ (List.mem_of_getElem? (i := 36) rfl))) (Or.inr (hw _ (List.mem_of_getElem? (i := 26) rfl))) (by decide) (t := .long) (t' := (.object "java/lang/String")) (by decide) (by decide)))).other W14 (Or.inr (slot_ne (Or.inr (hw _ (List.mem_of_getElem? (i := 36) rfl))) (Or.inr (hw _ (List.mem_of_getElem? (i := 28) rfl))) (by decide) (t := .long) (t' := (.object "java/lang/String")) (by decide) (by decide)))).other W18 (Or.inr (slot_ne (Or.inr (hw _ (List.mem_of_getElem? (i := 36) rfl))) (Or.inr (hw _ (List.mem_of_getElem? (i := 30) rfl))) (by decide) (t := .long) (t' := (.object "java/lang/String")) (by decide) (by decide)))).other W22 (Or.inr (slot_ne (Or.inr (hw _ (List.mem_of_getElem? (i := 36) rfl))) (Or.inr (hw _ (List.mem_of_getElem? (i := 32) rfl))) (by decide) (t := .long) (t' := (.object "java/lang/String")) (by decide) (by decide)))).other W26 (Or.inr (slot_ne (Or.inr (hw _ (List.mem_of_getElem? (i := 36) rfl))) (Or.inr (hw _ (List.mem_of_getElem? (i := 34) rfl))) (by decide) (t := .long) (t' := (.object "java/lang/String")) (by decide) (by decide))))
  obtain ⟨T30, h30, X30, e30, W30, st30⟩ := putF X26 hx hZ hown (host := "") (Or.inl (hw _ (List.mem_of_getElem? (i := 35) rfl))) Via.refl e26 f29 f28 (Or.inr ⟨(hw _ (List.mem_of_getElem? (i := 36) rfl)), rfl, hnm⟩) (hw _ (List.mem_of_getElem? (i := 1) rfl)) (ty := .long) (by decide) rfl rfl (g := (mkF m 34 #[.val (.ref a_1), .val (.ref a_2), .val (.ref a_3), .val .null, .val (.ref a_5), .val (.ref a_6), .val (.long q_7), .second, .val (.long q_8), .second] [(.long q_7), (.ref a_1)])) rfl rfl (hb hby own_d1_34)
  have z31 := W30.size
  have K30 : Keep h0 h30 [a_1] := K26.wr W30 (Or.inl (List.mem_of_getElem? (i := 0) rfl))
  have N30 := Fr.snoc X30 N26 (by omega : n0 ≤ a_1)
  have Fw30 : Fld Z h30 a_1 "com/example/orderly_storefront/orderlystorefront/order/OrderLine" "quantity" "J" (.long q_7) := Fld.same W30 f29
  refine own_go (fun _ k => st30 _ k) ?_
  show own_Go _ _ _ _ T30 (mkF m 37 #[.val (.ref a_1), .val (.ref a_2), .val (.ref a_3), .val .null, .val (.ref a_5), .val (.ref a_6), .val (.long q_7), .second, .val (.long q_8), .second] [])
  refine own_go (fun _ k => XS.aloadN X30.here hx rfl (hb hby own_d1_37) rfl rfl k) ?_
  show own_Go _ _ _ _ T30 (mkF m 38 #[.val (.ref a_1), .val (.ref a_2), .val (.ref a_3), .val .null, .val (.ref a_5), .val (.ref a_6), .val (.long q_7), .second, .val (.long q_8), .second] [(.ref a_1)])
  refine own_go (fun _ k => XS.lload X30.here hx rfl (hb hby own_d1_38) rfl k) ?_
  show own_Go _ _ _ _ T30 (mkF m 40 #[.val (.ref a_1), .val (.ref a_2), .val (.ref a_3), .val .null, .val (.ref a_5), .val (.ref a_6), .val (.long q_7), .second, .val (.long q_8), .second] [(.long q_8), (.ref a_1)])
  have f32 : Exa Z h30 a_1 "com/example/orderly_storefront/orderlystorefront/order/OrderLine" := (f28.wr W30)
  have f33 : Fld Z h30 a_1 "com/example/orderly_storefront/orderlystorefront/order/OrderLine" "unitPrice" "J" (.long w_unitPrice_a_1) := ((((((pr_F_a_1_unitPrice.other W10 (Or.inr (slot_ne (Or.inr (hw _ (List.mem_of_getElem? (i := 38) rfl))) (Or.inr (hw _ (List.mem_of_getElem? (i := 26) rfl))) (by decide) (t := .long) (t' := (.object "java/lang/String")) (by decide) (by decide)))).other W14 (Or.inr (slot_ne (Or.inr (hw _ (List.mem_of_getElem? (i := 38) rfl))) (Or.inr (hw _ (List.mem_of_getElem? (i := 28) rfl))) (by decide) (t := .long) (t' := (.object "java/lang/String")) (by decide) (by decide)))).other W18 (Or.inr (slot_ne (Or.inr (hw _ (List.mem_of_getElem? (i := 38) rfl))) (Or.inr (hw _ (List.mem_of_getElem? (i := 30) rfl))) (by decide) (t := .long) (t' := (.object "java/lang/String")) (by decide) (by decide)))).other W22 (Or.inr (slot_ne (Or.inr (hw _ (List.mem_of_getElem? (i := 38) rfl))) (Or.inr (hw _ (List.mem_of_getElem? (i := 32) rfl))) (by decide) (t := .long) (t' := (.object "java/lang/String")) (by decide) (by decide)))).other W26 (Or.inr (slot_ne (Or.inr (hw _ (List.mem_of_getElem? (i := 38) rfl))) (Or.inr (hw _ (List.mem_of_getElem? (i := 34) rfl))) (by decide) (t := .long) (t' := (.object "java/lang/String")) (by decide) (by decide)))).other W30 (Or.inr (slot_ne (Or.inr (hw _ (List.mem_of_getElem? (i := 38) rfl))) (Or.inr (hw _ (List.mem_of_getElem? (i := 36) rfl))) (by decide) (t := .long) (t' := .long) (by decide) (by decide))))
  obtain ⟨T34, h34, X34, e34, W34, st34⟩ := putF X30 hx hZ hown (host := "") (Or.inl (hw _ (List.mem_of_getElem? (i := 37) rfl))) Via.refl e30 f33 f32 (Or.inr ⟨(hw _ (List.mem_of_getElem? (i := 38) rfl)), rfl, hnm⟩) (hw _ (List.mem_of_getElem? (i := 1) rfl)) (ty := .long) (by decide) rfl rfl (g := (mkF m 40 #[.val (.ref a_1), .val (.ref a_2), .val (.ref a_3), .val .null, .val (.ref a_5), .val (.ref a_6), .val (.long q_7), .second, .val (.long q_8), .second] [(.long q_8), (.ref a_1)])) rfl rfl (hb hby own_d1_40)
  have z35 := W34.size
  have K34 : Keep h0 h34 [a_1] := K30.wr W34 (Or.inl (List.mem_of_getElem? (i := 0) rfl))
  have N34 := Fr.snoc X34 N30 (by omega : n0 ≤ a_1)
  have Fw34 : Fld Z h34 a_1 "com/example/orderly_storefront/orderlystorefront/order/OrderLine" "unitPrice" "J" (.long q_8) := Fld.same W34 f33
  refine own_go (fun _ k => st34 _ k) ?_
  show own_Go _ _ _ _ T34 (mkF m 43 #[.val (.ref a_1), .val (.ref a_2), .val (.ref a_3), .val .null, .val (.ref a_5), .val (.ref a_6), .val (.long q_7), .second, .val (.long q_8), .second] [])
  obtain ⟨fs, hr, hrun, hended, hW, hsame⟩ := X34.leave (v := none) (fun _ => rfl)
  refine ⟨_, _, X34.returnOut hx Bd.returns (hb hby own_d1_43) hr, hrun, hended, _, _, rfl, ?_, ⟨_, rfl⟩, hW, hsame.mono (by rw [y9]; decide) (by rw [z9]; decide)⟩
  show own_Q1n Z a_1 a_2 a_3 a_5 a_6 q_7 q_8 w_id_a_1 w_variantId_a_1 w_sku_a_1 w_productTitle_a_1 w_variantTitle_a_1 w_quantity_a_1 w_unitPrice_a_1 h0 n0 _ T34.heap _
  rw [e34]
  have f37 : Exa Z h34 a_1 "com/example/orderly_storefront/orderlystorefront/order/OrderLine" := (f32.wr W34)
  have f38 : Fld Z h34 a_1 "com/example/orderly_storefront/orderlystorefront/order/OrderLine" "id" "Ljava/lang/String;" (.ref a_2) := ((((((Fw10.other W14 (Or.inr (slot_ne (Or.inr (hw _ (List.mem_of_getElem? (i := 26) rfl))) (Or.inr (hw _ (List.mem_of_getElem? (i := 28) rfl))) (by decide) (t := (.object "java/lang/String")) (t' := (.object "java/lang/String")) (by decide) (by decide)))).other W18 (Or.inr (slot_ne (Or.inr (hw _ (List.mem_of_getElem? (i := 26) rfl))) (Or.inr (hw _ (List.mem_of_getElem? (i := 30) rfl))) (by decide) (t := (.object "java/lang/String")) (t' := (.object "java/lang/String")) (by decide) (by decide)))).other W22 (Or.inr (slot_ne (Or.inr (hw _ (List.mem_of_getElem? (i := 26) rfl))) (Or.inr (hw _ (List.mem_of_getElem? (i := 32) rfl))) (by decide) (t := (.object "java/lang/String")) (t' := (.object "java/lang/String")) (by decide) (by decide)))).other W26 (Or.inr (slot_ne (Or.inr (hw _ (List.mem_of_getElem? (i := 26) rfl))) (Or.inr (hw _ (List.mem_of_getElem? (i := 34) rfl))) (by decide) (t := (.object "java/lang/String")) (t' := (.object "java/lang/String")) (by decide) (by decide)))).other W30 (Or.inr (slot_ne (Or.inr (hw _ (List.mem_of_getElem? (i := 26) rfl))) (Or.inr (hw _ (List.mem_of_getElem? (i := 36) rfl))) (by decide) (t := (.object "java/lang/String")) (t' := .long) (by decide) (by decide)))).other W34 (Or.inr (slot_ne (Or.inr (hw _ (List.mem_of_getElem? (i := 26) rfl))) (Or.inr (hw _ (List.mem_of_getElem? (i := 38) rfl))) (by decide) (t := (.object "java/lang/String")) (t' := .long) (by decide) (by decide))))
  have f39 : Fld Z h34 a_1 "com/example/orderly_storefront/orderlystorefront/order/OrderLine" "variantId" "Ljava/lang/String;" (.ref a_3) := (((((Fw14.other W18 (Or.inr (slot_ne (Or.inr (hw _ (List.mem_of_getElem? (i := 28) rfl))) (Or.inr (hw _ (List.mem_of_getElem? (i := 30) rfl))) (by decide) (t := (.object "java/lang/String")) (t' := (.object "java/lang/String")) (by decide) (by decide)))).other W22 (Or.inr (slot_ne (Or.inr (hw _ (List.mem_of_getElem? (i := 28) rfl))) (Or.inr (hw _ (List.mem_of_getElem? (i := 32) rfl))) (by decide) (t := (.object "java/lang/String")) (t' := (.object "java/lang/String")) (by decide) (by decide)))).other W26 (Or.inr (slot_ne (Or.inr (hw _ (List.mem_of_getElem? (i := 28) rfl))) (Or.inr (hw _ (List.mem_of_getElem? (i := 34) rfl))) (by decide) (t := (.object "java/lang/String")) (t' := (.object "java/lang/String")) (by decide) (by decide)))).other W30 (Or.inr (slot_ne (Or.inr (hw _ (List.mem_of_getElem? (i := 28) rfl))) (Or.inr (hw _ (List.mem_of_getElem? (i := 36) rfl))) (by decide) (t := (.object "java/lang/String")) (t' := .long) (by decide) (by decide)))).other W34 (Or.inr (slot_ne (Or.inr (hw _ (List.mem_of_getElem? (i := 28) rfl))) (Or.inr (hw _ (List.mem_of_getElem? (i := 38) rfl))) (by decide) (t := (.object "java/lang/String")) (t' := .long) (by decide) (by decide))))
  have f40 : Fld Z h34 a_1 "com/example/orderly_storefront/orderlystorefront/order/OrderLine" "sku" "Ljava/lang/String;" .null := ((((Fw18.other W22 (Or.inr (slot_ne (Or.inr (hw _ (List.mem_of_getElem? (i := 30) rfl))) (Or.inr (hw _ (List.mem_of_getElem? (i := 32) rfl))) (by decide) (t := (.object "java/lang/String")) (t' := (.object "java/lang/String")) (by decide) (by decide)))).other W26 (Or.inr (slot_ne (Or.inr (hw _ (List.mem_of_getElem? (i := 30) rfl))) (Or.inr (hw _ (List.mem_of_getElem? (i := 34) rfl))) (by decide) (t := (.object "java/lang/String")) (t' := (.object "java/lang/String")) (by decide) (by decide)))).other W30 (Or.inr (slot_ne (Or.inr (hw _ (List.mem_of_getElem? (i := 30) rfl))) (Or.inr (hw _ (List.mem_of_getElem? (i := 36) rfl))) (by decide) (t := (.object "java/lang/String")) (t' := .long) (by decide) (by decide)))).other W34 (Or.inr (slot_ne (Or.inr (hw _ (List.mem_of_getElem? (i := 30) rfl))) (Or.inr (hw _ (List.mem_of_getElem? (i := 38) rfl))) (by decide) (t := (.object "java/lang/String")) (t' := .long) (by decide) (by decide))))
  have f41 : Fld Z h34 a_1 "com/example/orderly_storefront/orderlystorefront/order/OrderLine" "productTitle" "Ljava/lang/String;" (.ref a_5) := (((Fw22.other W26 (Or.inr (slot_ne (Or.inr (hw _ (List.mem_of_getElem? (i := 32) rfl))) (Or.inr (hw _ (List.mem_of_getElem? (i := 34) rfl))) (by decide) (t := (.object "java/lang/String")) (t' := (.object "java/lang/String")) (by decide) (by decide)))).other W30 (Or.inr (slot_ne (Or.inr (hw _ (List.mem_of_getElem? (i := 32) rfl))) (Or.inr (hw _ (List.mem_of_getElem? (i := 36) rfl))) (by decide) (t := (.object "java/lang/String")) (t' := .long) (by decide) (by decide)))).other W34 (Or.inr (slot_ne (Or.inr (hw _ (List.mem_of_getElem? (i := 32) rfl))) (Or.inr (hw _ (List.mem_of_getElem? (i := 38) rfl))) (by decide) (t := (.object "java/lang/String")) (t' := .long) (by decide) (by decide))))
  have f42 : Fld Z h34 a_1 "com/example/orderly_storefront/orderlystorefront/order/OrderLine" "variantTitle" "Ljava/lang/String;" (.ref a_6) := ((Fw26.other W30 (Or.inr (slot_ne (Or.inr (hw _ (List.mem_of_getElem? (i := 34) rfl))) (Or.inr (hw _ (List.mem_of_getElem? (i := 36) rfl))) (by decide) (t := (.object "java/lang/String")) (t' := .long) (by decide) (by decide)))).other W34 (Or.inr (slot_ne (Or.inr (hw _ (List.mem_of_getElem? (i := 34) rfl))) (Or.inr (hw _ (List.mem_of_getElem? (i := 38) rfl))) (by decide) (t := (.object "java/lang/String")) (t' := .long) (by decide) (by decide))))
  have f43 : Fld Z h34 a_1 "com/example/orderly_storefront/orderlystorefront/order/OrderLine" "quantity" "J" (.long q_7) := (Fw30.other W34 (Or.inr (slot_ne (Or.inr (hw _ (List.mem_of_getElem? (i := 36) rfl))) (Or.inr (hw _ (List.mem_of_getElem? (i := 38) rfl))) (by decide) (t := .long) (t' := .long) (by decide) (by decide))))
  exact ⟨rfl, N34, K34, f37, f38, f39, f40, f41, f42, f43, Fw34⟩
theorem own_ef_own_rm1 (m : MethodId) (x0 : Addr) (x1 : Addr) (x2 : Addr) (x3 : Addr) (x4 : Addr) (x5 : Addr) (x6 : Int64) (x7 : Int64) : entryFrame m #[(.ref x0), (.ref x1), (.ref x2), (.ref x3), (.ref x4), (.ref x5), (.long x6), (.long x7)] 10 = mkF m 0 #[.val (.ref x0), .val (.ref x1), .val (.ref x2), .val (.ref x3), .val (.ref x4), .val (.ref x5), .val (.long x6), .second, .val (.long x7), .second] [] := by first | (simp [entryFrame, mkF, argsToLocals, Value.category]; done) | rfl
def own_Q1 (Z : State) (a_1 : Addr) (a_2 : Addr) (a_3 : Addr) (a_4 : Addr) (a_5 : Addr) (a_6 : Addr) (q_7 : Int64) (q_8 : Int64) (w_id_a_1 : Value) (w_variantId_a_1 : Value) (w_sku_a_1 : Value) (w_productTitle_a_1 : Value) (w_variantTitle_a_1 : Value) (w_quantity_a_1 : Int64) (w_unitPrice_a_1 : Int64) (h0 : Heap) (n0 : Nat) (v : Option Value) (h : Heap) (L : List Loc) : Prop := v = none ∧ Fr n0 L ∧ Keep h0 h [a_1] ∧ Exa Z h a_1 "com/example/orderly_storefront/orderlystorefront/order/OrderLine" ∧ Fld Z h a_1 "com/example/orderly_storefront/orderlystorefront/order/OrderLine" "id" "Ljava/lang/String;" (.ref a_2) ∧ Fld Z h a_1 "com/example/orderly_storefront/orderlystorefront/order/OrderLine" "variantId" "Ljava/lang/String;" (.ref a_3) ∧ Fld Z h a_1 "com/example/orderly_storefront/orderlystorefront/order/OrderLine" "sku" "Ljava/lang/String;" (.ref a_4) ∧ Fld Z h a_1 "com/example/orderly_storefront/orderlystorefront/order/OrderLine" "productTitle" "Ljava/lang/String;" (.ref a_5) ∧ Fld Z h a_1 "com/example/orderly_storefront/orderlystorefront/order/OrderLine" "variantTitle" "Ljava/lang/String;" (.ref a_6) ∧ Fld Z h a_1 "com/example/orderly_storefront/orderlystorefront/order/OrderLine" "quantity" "J" (.long q_7) ∧ Fld Z h a_1 "com/example/orderly_storefront/orderlystorefront/order/OrderLine" "unitPrice" "J" (.long q_8)
set_option maxRecDepth 65536 in
set_option maxHeartbeats 40000000 in
theorem own_rm1 (l : Launch) (Z : State) (a0 : Array Value) (hw : ∀ d ∈ tables_1, d.before a0 Z = true) (ws : List Jvm.Cond) (a_1 : Addr) (a_2 : Addr) (a_3 : Addr) (a_4 : Addr) (a_5 : Addr) (a_6 : Addr) (q_7 : Int64) (q_8 : Int64) (w_id_a_1 : Value) (w_variantId_a_1 : Value) (w_sku_a_1 : Value) (w_productTitle_a_1 : Value) (w_variantTitle_a_1 : Value) (w_quantity_a_1 : Int64) (w_unitPrice_a_1 : Int64) (h0 : Heap) (n0 : Nat) (Z0 : n0 ≤ h0.size) (pr_E_a_1 : Exa Z h0 a_1 "com/example/orderly_storefront/orderlystorefront/order/OrderLine") (pr_F_a_1_id : Fld Z h0 a_1 "com/example/orderly_storefront/orderlystorefront/order/OrderLine" "id" "Ljava/lang/String;" w_id_a_1) (pr_F_a_1_variantId : Fld Z h0 a_1 "com/example/orderly_storefront/orderlystorefront/order/OrderLine" "variantId" "Ljava/lang/String;" w_variantId_a_1) (pr_F_a_1_sku : Fld Z h0 a_1 "com/example/orderly_storefront/orderlystorefront/order/OrderLine" "sku" "Ljava/lang/String;" w_sku_a_1) (pr_F_a_1_productTitle : Fld Z h0 a_1 "com/example/orderly_storefront/orderlystorefront/order/OrderLine" "productTitle" "Ljava/lang/String;" w_productTitle_a_1) (pr_F_a_1_variantTitle : Fld Z h0 a_1 "com/example/orderly_storefront/orderlystorefront/order/OrderLine" "variantTitle" "Ljava/lang/String;" w_variantTitle_a_1) (pr_F_a_1_quantity : Fld Z h0 a_1 "com/example/orderly_storefront/orderlystorefront/order/OrderLine" "quantity" "J" (.long w_quantity_a_1)) (pr_F_a_1_unitPrice : Fld Z h0 a_1 "com/example/orderly_storefront/orderlystorefront/order/OrderLine" "unitPrice" "J" (.long w_unitPrice_a_1)) (gw_a_1 : n0 ≤ a_1) :
    MetFree l (⟨"com/example/orderly_storefront/orderlystorefront/order/OrderLine", "<init>", "(Ljava/lang/String;Ljava/lang/String;Ljava/lang/String;Ljava/lang/String;Ljava/lang/String;JJ)V"⟩ : MethodName) (head1 (Jvm.Cond.code (⟨"com/example/orderly_storefront/orderlystorefront/order/OrderLine", "<init>", "(Ljava/lang/String;Ljava/lang/String;Ljava/lang/String;Ljava/lang/String;Ljava/lang/String;JJ)V"⟩ : MethodName) prog_38_method_1_code 10 none :: ws) ({ frames := 2, cells := 0, slots := 0, locals := 24 } : Room)) (fun a U => a = #[(.ref a_1), (.ref a_2), (.ref a_3), (.ref a_4), (.ref a_5), (.ref a_6), (.long q_7), (.long q_8)] ∧ Z.Warmed39 U.vm ∧ U.heap = h0) (fun _ _ _ _ _ => True) (fun _ U o U' => ∃ v L, o = .returned v ∧ own_Q1 Z a_1 a_2 a_3 a_4 a_5 a_6 q_7 q_8 w_id_a_1 w_variantId_a_1 w_sku_a_1 w_productTitle_a_1 w_variantTitle_a_1 w_quantity_a_1 w_unitPrice_a_1 h0 n0 v U'.heap L ∧ FrameEnd U o U' L ({ frames := 2, cells := 0, slots := 0, locals := 24 } : Room).cells ({ frames := 2, cells := 0, slots := 0, locals := 24 } : Room).slots) := by
  refine MetFree.of_bodySF (plainFor_of_name own_pn1) hisR ?_
  intro p e s m args below meth c s₁ Bd hml0 hP hK
  obtain ⟨rfl, hZ, hh⟩ := hP
  have hx := Bd.exec
  have hby := Bd.bytes
  have hml : c.maxLocals = 10 := hml0
  have hown : s.vm.findClass "com/example/orderly_storefront/orderlystorefront/order/OrderLine" = some m.cls := findClass_of_methodNamed Bd.named
  have hnm := (name_of_methodNamed Bd.named Bd.method).1
  have X0 : Stand p l e ({ frames := 2, cells := 0, slots := 0, locals := 24 } : Room) s m #[(.ref a_1), (.ref a_2), (.ref a_3), (.ref a_4), (.ref a_5), (.ref a_6), (.long q_7), (.long q_8)] below meth c s₁ [] 0 0 := Stand.of_body Bd
  have e0 : s₁.heap = h0 := by rw [← hh, Bd.state]; rfl
  have N0 := Fr.nil n0
  have z0 : n0 ≤ h0.size := Z0
  have z1 := own_lt pr_E_a_1.lt
  have z2 := own_lt pr_F_a_1_id.lt
  have z3 := own_lt pr_F_a_1_variantId.lt
  have z4 := own_lt pr_F_a_1_sku.lt
  have z5 := own_lt pr_F_a_1_productTitle.lt
  have z6 := own_lt pr_F_a_1_variantTitle.lt
  have z7 := own_lt pr_F_a_1_quantity.lt
  have z8 := own_lt pr_F_a_1_unitPrice.lt
  have K0 : Keep h0 h0 [a_1] := Keep.refl h0 _
  show own_Go p.tables e below (fun t o => t.status = .running ∧ Ended t below o ∧ ∃ v L, o = .returned v ∧ own_Q1 Z a_1 a_2 a_3 a_4 a_5 a_6 q_7 q_8 w_id_a_1 w_variantId_a_1 w_sku_a_1 w_productTitle_a_1 w_variantTitle_a_1 w_quantity_a_1 w_unitPrice_a_1 h0 n0 v t.heap L ∧ FrameEnd s o t L ({ frames := 2, cells := 0, slots := 0, locals := 24 } : Room).cells ({ frames := 2, cells := 0, slots := 0, locals := 24 } : Room).slots) s₁ (entryFrame m #[(.ref a_1), (.ref a_2), (.ref a_3), (.ref a_4), (.ref a_5), (.ref a_6), (.long q_7), (.long q_8)] 10)
  rw [own_ef_own_rm1 m a_1 a_2 a_3 a_4 a_5 a_6 q_7 q_8]
  show own_Go _ _ _ _ s₁ (mkF m 0 #[.val (.ref a_1), .val (.ref a_2), .val (.ref a_3), .val (.ref a_4), .val (.ref a_5), .val (.ref a_6), .val (.long q_7), .second, .val (.long q_8), .second] [])
  refine own_go (fun _ k => XS.aloadN X0.here hx rfl (hb hby own_d1_0) rfl rfl k) ?_
  show own_Go _ _ _ _ s₁ (mkF m 1 #[.val (.ref a_1), .val (.ref a_2), .val (.ref a_3), .val (.ref a_4), .val (.ref a_5), .val (.ref a_6), .val (.long q_7), .second, .val (.long q_8), .second] [(.ref a_1)])
  obtain ⟨_, _, ⟨T9, L9, k9, n9⟩, -, X9, ⟨Lc9, hQ9, l9, y9, z9⟩, st9⟩ := X0.specialBack hx (y := (⟨"java/lang/Record", "<init>", "()V"⟩ : MethodName)) rfl hown (mvT hZ (hw _ (List.mem_of_getElem? (i := 17) rfl))) (mvT hZ (hw _ (List.mem_of_getElem? (i := 18) rfl))) (mvT hZ (hw _ (List.mem_of_getElem? (i := 21) rfl))) (by decide) (backOf (W := 0) (own_rm2 l Z a0 hw [] a_1  h0 n0 (by omega) ) hZ (hw _ (List.mem_of_getElem? (i := 21) rfl)) (hw _ (List.mem_of_getElem? (i := 20) rfl)) (by decide) (by decide)) (g := (mkF m 1 #[.val (.ref a_1), .val (.ref a_2), .val (.ref a_3), .val (.ref a_4), .val (.ref a_5), .val (.ref a_6), .val (.long q_7), .second, .val (.long q_8), .second] [(.ref a_1)])) rfl (by rw [hml]; rfl) (Steps.refl _) (a := a_1) (argsL := []) (rest := []) (lenOf own_pd0 rfl) rfl (by show 2 * 0 + _ ≤ _; exact Nat.le_of_eq rfl) (hb hby own_d1_1) (fun _ _ => ⟨rfl, e0, (by decide : 0 + 0 ≤ _), (by decide : 0 + 0 ≤ _)⟩)
  dsimp only [Pt.U, Pt.locs, Pt.cells, Pt.slots] at X9 l9 y9 z9 st9 hQ9
  have y9 : k9 = 0 := y9
  have z9 : n9 = 0 := z9
  obtain ⟨rfl, N9q, e9⟩ := hQ9
  have N9 : Fr n0 L9 := by rw [l9]; exact Fr.app N0 N9q
  refine own_go (fun _ k => st9.trans k) ?_
  show own_Go _ _ _ _ T9 (mkF m 4 #[.val (.ref a_1), .val (.ref a_2), .val (.ref a_3), .val (.ref a_4), .val (.ref a_5), .val (.ref a_6), .val (.long q_7), .second, .val (.long q_8), .second] [])
  refine own_go (fun _ k => XS.aloadN X9.here hx rfl (hb hby own_d1_4) rfl rfl k) ?_
  show own_Go _ _ _ _ T9 (mkF m 5 #[.val (.ref a_1), .val (.ref a_2), .val (.ref a_3), .val (.ref a_4), .val (.ref a_5), .val (.ref a_6), .val (.long q_7), .second, .val (.long q_8), .second] [(.ref a_1)])
  refine own_go (fun _ k => XS.aloadN X9.here hx rfl (hb hby own_d1_5) rfl rfl k) ?_
  show own_Go _ _ _ _ T9 (mkF m 6 #[.val (.ref a_1), .val (.ref a_2), .val (.ref a_3), .val (.ref a_4), .val (.ref a_5), .val (.ref a_6), .val (.long q_7), .second, .val (.long q_8), .second] [(.ref a_2), (.ref a_1)])
  obtain ⟨T10, h10, X10, e10, W10, st10⟩ := putF X9 hx hZ hown (host := "") (Or.inl (hw _ (List.mem_of_getElem? (i := 25) rfl))) Via.refl e9 pr_F_a_1_id pr_E_a_1 (Or.inr ⟨(hw _ (List.mem_of_getElem? (i := 26) rfl)), rfl, hnm⟩) (hw _ (List.mem_of_getElem? (i := 1) rfl)) (ty := (.object "java/lang/String")) (by decide) rfl rfl (g := (mkF m 6 #[.val (.ref a_1), .val (.ref a_2), .val (.ref a_3), .val (.ref a_4), .val (.ref a_5), .val (.ref a_6), .val (.long q_7), .second, .val (.long q_8), .second] [(.ref a_2), (.ref a_1)])) rfl rfl (hb hby own_d1_6)
  have z11 := W10.size
  have K10 : Keep h0 h10 [a_1] := K0.wr W10 (Or.inl (List.mem_of_getElem? (i := 0) rfl))
  have N10 := Fr.snoc X10 N9 (by omega : n0 ≤ a_1)
  have Fw10 : Fld Z h10 a_1 "com/example/orderly_storefront/orderlystorefront/order/OrderLine" "id" "Ljava/lang/String;" (.ref a_2) := Fld.same W10 pr_F_a_1_id
  refine own_go (fun _ k => st10 _ k) ?_
  show own_Go _ _ _ _ T10 (mkF m 9 #[.val (.ref a_1), .val (.ref a_2), .val (.ref a_3), .val (.ref a_4), .val (.ref a_5), .val (.ref a_6), .val (.long q_7), .second, .val (.long q_8), .second] [])
  refine own_go (fun _ k => XS.aloadN X10.here hx rfl (hb hby own_d1_9) rfl rfl k) ?_
  show own_Go _ _ _ _ T10 (mkF m 10 #[.val (.ref a_1), .val (.ref a_2), .val (.ref a_3), .val (.ref a_4), .val (.ref a_5), .val (.ref a_6), .val (.long q_7), .second, .val (.long q_8), .second] [(.ref a_1)])
  refine own_go (fun _ k => XS.aloadN X10.here hx rfl (hb hby own_d1_10) rfl rfl k) ?_
  show own_Go _ _ _ _ T10 (mkF m 11 #[.val (.ref a_1), .val (.ref a_2), .val (.ref a_3), .val (.ref a_4), .val (.ref a_5), .val (.ref a_6), .val (.long q_7), .second, .val (.long q_8), .second] [(.ref a_3), (.ref a_1)])
  have f12 : Exa Z h10 a_1 "com/example/orderly_storefront/orderlystorefront/order/OrderLine" := (pr_E_a_1.wr W10)
  have f13 : Fld Z h10 a_1 "com/example/orderly_storefront/orderlystorefront/order/OrderLine" "variantId" "Ljava/lang/String;" w_variantId_a_1 := (pr_F_a_1_variantId.other W10 (Or.inr (slot_ne (Or.inr (hw _ (List.mem_of_getElem? (i := 28) rfl))) (Or.inr (hw _ (List.mem_of_getElem? (i := 26) rfl))) (by decide) (t := (.object "java/lang/String")) (t' := (.object "java/lang/String")) (by decide) (by decide))))
  obtain ⟨T14, h14, X14, e14, W14, st14⟩ := putF X10 hx hZ hown (host := "") (Or.inl (hw _ (List.mem_of_getElem? (i := 27) rfl))) Via.refl e10 f13 f12 (Or.inr ⟨(hw _ (List.mem_of_getElem? (i := 28) rfl)), rfl, hnm⟩) (hw _ (List.mem_of_getElem? (i := 1) rfl)) (ty := (.object "java/lang/String")) (by decide) rfl rfl (g := (mkF m 11 #[.val (.ref a_1), .val (.ref a_2), .val (.ref a_3), .val (.ref a_4), .val (.ref a_5), .val (.ref a_6), .val (.long q_7), .second, .val (.long q_8), .second] [(.ref a_3), (.ref a_1)])) rfl rfl (hb hby own_d1_11)
  have z15 := W14.size
  have K14 : Keep h0 h14 [a_1] := K10.wr W14 (Or.inl (List.mem_of_getElem? (i := 0) rfl))
  have N14 := Fr.snoc X14 N10 (by omega : n0 ≤ a_1)
  have Fw14 : Fld Z h14 a_1 "com/example/orderly_storefront/orderlystorefront/order/OrderLine" "variantId" "Ljava/lang/String;" (.ref a_3) := Fld.same W14 f13
  refine own_go (fun _ k => st14 _ k) ?_
  show own_Go _ _ _ _ T14 (mkF m 14 #[.val (.ref a_1), .val (.ref a_2), .val (.ref a_3), .val (.ref a_4), .val (.ref a_5), .val (.ref a_6), .val (.long q_7), .second, .val (.long q_8), .second] [])
  refine own_go (fun _ k => XS.aloadN X14.here hx rfl (hb hby own_d1_14) rfl rfl k) ?_
  show own_Go _ _ _ _ T14 (mkF m 15 #[.val (.ref a_1), .val (.ref a_2), .val (.ref a_3), .val (.ref a_4), .val (.ref a_5), .val (.ref a_6), .val (.long q_7), .second, .val (.long q_8), .second] [(.ref a_1)])
  refine own_go (fun _ k => XS.aloadN X14.here hx rfl (hb hby own_d1_15) rfl rfl k) ?_
  show own_Go _ _ _ _ T14 (mkF m 16 #[.val (.ref a_1), .val (.ref a_2), .val (.ref a_3), .val (.ref a_4), .val (.ref a_5), .val (.ref a_6), .val (.long q_7), .second, .val (.long q_8), .second] [(.ref a_4), (.ref a_1)])
  have f16 : Exa Z h14 a_1 "com/example/orderly_storefront/orderlystorefront/order/OrderLine" := (f12.wr W14)
  have f17 : Fld Z h14 a_1 "com/example/orderly_storefront/orderlystorefront/order/OrderLine" "sku" "Ljava/lang/String;" w_sku_a_1 := ((pr_F_a_1_sku.other W10 (Or.inr (slot_ne (Or.inr (hw _ (List.mem_of_getElem? (i := 30) rfl))) (Or.inr (hw _ (List.mem_of_getElem? (i := 26) rfl))) (by decide) (t := (.object "java/lang/String")) (t' := (.object "java/lang/String")) (by decide) (by decide)))).other W14 (Or.inr (slot_ne (Or.inr (hw _ (List.mem_of_getElem? (i := 30) rfl))) (Or.inr (hw _ (List.mem_of_getElem? (i := 28) rfl))) (by decide) (t := (.object "java/lang/String")) (t' := (.object "java/lang/String")) (by decide) (by decide))))
  obtain ⟨T18, h18, X18, e18, W18, st18⟩ := putF X14 hx hZ hown (host := "") (Or.inl (hw _ (List.mem_of_getElem? (i := 29) rfl))) Via.refl e14 f17 f16 (Or.inr ⟨(hw _ (List.mem_of_getElem? (i := 30) rfl)), rfl, hnm⟩) (hw _ (List.mem_of_getElem? (i := 1) rfl)) (ty := (.object "java/lang/String")) (by decide) rfl rfl (g := (mkF m 16 #[.val (.ref a_1), .val (.ref a_2), .val (.ref a_3), .val (.ref a_4), .val (.ref a_5), .val (.ref a_6), .val (.long q_7), .second, .val (.long q_8), .second] [(.ref a_4), (.ref a_1)])) rfl rfl (hb hby own_d1_16)
  have z19 := W18.size
  have K18 : Keep h0 h18 [a_1] := K14.wr W18 (Or.inl (List.mem_of_getElem? (i := 0) rfl))
  have N18 := Fr.snoc X18 N14 (by omega : n0 ≤ a_1)
  have Fw18 : Fld Z h18 a_1 "com/example/orderly_storefront/orderlystorefront/order/OrderLine" "sku" "Ljava/lang/String;" (.ref a_4) := Fld.same W18 f17
  refine own_go (fun _ k => st18 _ k) ?_
  show own_Go _ _ _ _ T18 (mkF m 19 #[.val (.ref a_1), .val (.ref a_2), .val (.ref a_3), .val (.ref a_4), .val (.ref a_5), .val (.ref a_6), .val (.long q_7), .second, .val (.long q_8), .second] [])
  refine own_go (fun _ k => XS.aloadN X18.here hx rfl (hb hby own_d1_19) rfl rfl k) ?_
  show own_Go _ _ _ _ T18 (mkF m 20 #[.val (.ref a_1), .val (.ref a_2), .val (.ref a_3), .val (.ref a_4), .val (.ref a_5), .val (.ref a_6), .val (.long q_7), .second, .val (.long q_8), .second] [(.ref a_1)])
  refine own_go (fun _ k => XS.aload X18.here hx rfl (hb hby own_d1_20) rfl rfl k) ?_
  show own_Go _ _ _ _ T18 (mkF m 22 #[.val (.ref a_1), .val (.ref a_2), .val (.ref a_3), .val (.ref a_4), .val (.ref a_5), .val (.ref a_6), .val (.long q_7), .second, .val (.long q_8), .second] [(.ref a_5), (.ref a_1)])
  have f20 : Exa Z h18 a_1 "com/example/orderly_storefront/orderlystorefront/order/OrderLine" := (f16.wr W18)
  have f21 : Fld Z h18 a_1 "com/example/orderly_storefront/orderlystorefront/order/OrderLine" "productTitle" "Ljava/lang/String;" w_productTitle_a_1 := (((pr_F_a_1_productTitle.other W10 (Or.inr (slot_ne (Or.inr (hw _ (List.mem_of_getElem? (i := 32) rfl))) (Or.inr (hw _ (List.mem_of_getElem? (i := 26) rfl))) (by decide) (t := (.object "java/lang/String")) (t' := (.object "java/lang/String")) (by decide) (by decide)))).other W14 (Or.inr (slot_ne (Or.inr (hw _ (List.mem_of_getElem? (i := 32) rfl))) (Or.inr (hw _ (List.mem_of_getElem? (i := 28) rfl))) (by decide) (t := (.object "java/lang/String")) (t' := (.object "java/lang/String")) (by decide) (by decide)))).other W18 (Or.inr (slot_ne (Or.inr (hw _ (List.mem_of_getElem? (i := 32) rfl))) (Or.inr (hw _ (List.mem_of_getElem? (i := 30) rfl))) (by decide) (t := (.object "java/lang/String")) (t' := (.object "java/lang/String")) (by decide) (by decide))))
  obtain ⟨T22, h22, X22, e22, W22, st22⟩ := putF X18 hx hZ hown (host := "") (Or.inl (hw _ (List.mem_of_getElem? (i := 31) rfl))) Via.refl e18 f21 f20 (Or.inr ⟨(hw _ (List.mem_of_getElem? (i := 32) rfl)), rfl, hnm⟩) (hw _ (List.mem_of_getElem? (i := 1) rfl)) (ty := (.object "java/lang/String")) (by decide) rfl rfl (g := (mkF m 22 #[.val (.ref a_1), .val (.ref a_2), .val (.ref a_3), .val (.ref a_4), .val (.ref a_5), .val (.ref a_6), .val (.long q_7), .second, .val (.long q_8), .second] [(.ref a_5), (.ref a_1)])) rfl rfl (hb hby own_d1_22)
  have z23 := W22.size
  have K22 : Keep h0 h22 [a_1] := K18.wr W22 (Or.inl (List.mem_of_getElem? (i := 0) rfl))
  have N22 := Fr.snoc X22 N18 (by omega : n0 ≤ a_1)
  have Fw22 : Fld Z h22 a_1 "com/example/orderly_storefront/orderlystorefront/order/OrderLine" "productTitle" "Ljava/lang/String;" (.ref a_5) := Fld.same W22 f21
  refine own_go (fun _ k => st22 _ k) ?_
  show own_Go _ _ _ _ T22 (mkF m 25 #[.val (.ref a_1), .val (.ref a_2), .val (.ref a_3), .val (.ref a_4), .val (.ref a_5), .val (.ref a_6), .val (.long q_7), .second, .val (.long q_8), .second] [])
  refine own_go (fun _ k => XS.aloadN X22.here hx rfl (hb hby own_d1_25) rfl rfl k) ?_
  show own_Go _ _ _ _ T22 (mkF m 26 #[.val (.ref a_1), .val (.ref a_2), .val (.ref a_3), .val (.ref a_4), .val (.ref a_5), .val (.ref a_6), .val (.long q_7), .second, .val (.long q_8), .second] [(.ref a_1)])
  refine own_go (fun _ k => XS.aload X22.here hx rfl (hb hby own_d1_26) rfl rfl k) ?_
  show own_Go _ _ _ _ T22 (mkF m 28 #[.val (.ref a_1), .val (.ref a_2), .val (.ref a_3), .val (.ref a_4), .val (.ref a_5), .val (.ref a_6), .val (.long q_7), .second, .val (.long q_8), .second] [(.ref a_6), (.ref a_1)])
  have f24 : Exa Z h22 a_1 "com/example/orderly_storefront/orderlystorefront/order/OrderLine" := (f20.wr W22)
  have f25 : Fld Z h22 a_1 "com/example/orderly_storefront/orderlystorefront/order/OrderLine" "variantTitle" "Ljava/lang/String;" w_variantTitle_a_1 := ((((pr_F_a_1_variantTitle.other W10 (Or.inr (slot_ne (Or.inr (hw _ (List.mem_of_getElem? (i := 34) rfl))) (Or.inr (hw _ (List.mem_of_getElem? (i := 26) rfl))) (by decide) (t := (.object "java/lang/String")) (t' := (.object "java/lang/String")) (by decide) (by decide)))).other W14 (Or.inr (slot_ne (Or.inr (hw _ (List.mem_of_getElem? (i := 34) rfl))) (Or.inr (hw _ (List.mem_of_getElem? (i := 28) rfl))) (by decide) (t := (.object "java/lang/String")) (t' := (.object "java/lang/String")) (by decide) (by decide)))).other W18 (Or.inr (slot_ne (Or.inr (hw _ (List.mem_of_getElem? (i := 34) rfl))) (Or.inr (hw _ (List.mem_of_getElem? (i := 30) rfl))) (by decide) (t := (.object "java/lang/String")) (t' := (.object "java/lang/String")) (by decide) (by decide)))).other W22 (Or.inr (slot_ne (Or.inr (hw _ (List.mem_of_getElem? (i := 34) rfl))) (Or.inr (hw _ (List.mem_of_getElem? (i := 32) rfl))) (by decide) (t := (.object "java/lang/String")) (t' := (.object "java/lang/String")) (by decide) (by decide))))
  obtain ⟨T26, h26, X26, e26, W26, st26⟩ := putF X22 hx hZ hown (host := "") (Or.inl (hw _ (List.mem_of_getElem? (i := 33) rfl))) Via.refl e22 f25 f24 (Or.inr ⟨(hw _ (List.mem_of_getElem? (i := 34) rfl)), rfl, hnm⟩) (hw _ (List.mem_of_getElem? (i := 1) rfl)) (ty := (.object "java/lang/String")) (by decide) rfl rfl (g := (mkF m 28 #[.val (.ref a_1), .val (.ref a_2), .val (.ref a_3), .val (.ref a_4), .val (.ref a_5), .val (.ref a_6), .val (.long q_7), .second, .val (.long q_8), .second] [(.ref a_6), (.ref a_1)])) rfl rfl (hb hby own_d1_28)
  have z27 := W26.size
  have K26 : Keep h0 h26 [a_1] := K22.wr W26 (Or.inl (List.mem_of_getElem? (i := 0) rfl))
  have N26 := Fr.snoc X26 N22 (by omega : n0 ≤ a_1)
  have Fw26 : Fld Z h26 a_1 "com/example/orderly_storefront/orderlystorefront/order/OrderLine" "variantTitle" "Ljava/lang/String;" (.ref a_6) := Fld.same W26 f25
  refine own_go (fun _ k => st26 _ k) ?_
  show own_Go _ _ _ _ T26 (mkF m 31 #[.val (.ref a_1), .val (.ref a_2), .val (.ref a_3), .val (.ref a_4), .val (.ref a_5), .val (.ref a_6), .val (.long q_7), .second, .val (.long q_8), .second] [])
  refine own_go (fun _ k => XS.aloadN X26.here hx rfl (hb hby own_d1_31) rfl rfl k) ?_
  show own_Go _ _ _ _ T26 (mkF m 32 #[.val (.ref a_1), .val (.ref a_2), .val (.ref a_3), .val (.ref a_4), .val (.ref a_5), .val (.ref a_6), .val (.long q_7), .second, .val (.long q_8), .second] [(.ref a_1)])
  refine own_go (fun _ k => XS.lload X26.here hx rfl (hb hby own_d1_32) rfl k) ?_
  show own_Go _ _ _ _ T26 (mkF m 34 #[.val (.ref a_1), .val (.ref a_2), .val (.ref a_3), .val (.ref a_4), .val (.ref a_5), .val (.ref a_6), .val (.long q_7), .second, .val (.long q_8), .second] [(.long q_7), (.ref a_1)])
  have f28 : Exa Z h26 a_1 "com/example/orderly_storefront/orderlystorefront/order/OrderLine" := (f24.wr W26)
  have f29 : Fld Z h26 a_1 "com/example/orderly_storefront/orderlystorefront/order/OrderLine" "quantity" "J" (.long w_quantity_a_1) := (((((pr_F_a_1_quantity.other W10 (Or.inr (slot_ne (Or.inr (hw _ (List.mem_of_getElem? (i := 36) rfl))) (Or.inr (hw _ (List.mem_of_getElem? (i := 26) rfl))) (by decide) (t := .long) (t' := (.object "java/lang/String")) (by decide) (by decide)))).other W14 (Or.inr (slot_ne (Or.inr (hw _ (List.mem_of_getElem? (i := 36) rfl))) (Or.inr (hw _ (List.mem_of_getElem? (i := 28) rfl))) (by decide) (t := .long) (t' := (.object "java/lang/String")) (by decide) (by decide)))).other W18 (Or.inr (slot_ne (Or.inr (hw _ (List.mem_of_getElem? (i := 36) rfl))) (Or.inr (hw _ (List.mem_of_getElem? (i := 30) rfl))) (by decide) (t := .long) (t' := (.object "java/lang/String")) (by decide) (by decide)))).other W22 (Or.inr (slot_ne (Or.inr (hw _ (List.mem_of_getElem? (i := 36) rfl))) (Or.inr (hw _ (List.mem_of_getElem? (i := 32) rfl))) (by decide) (t := .long) (t' := (.object "java/lang/String")) (by decide) (by decide)))).other W26 (Or.inr (slot_ne (Or.inr (hw _ (List.mem_of_getElem? (i := 36) rfl))) (Or.inr (hw _ (List.mem_of_getElem? (i := 34) rfl))) (by decide) (t := .long) (t' := (.object "java/lang/String")) (by decide) (by decide))))
  obtain ⟨T30, h30, X30, e30, W30, st30⟩ := putF X26 hx hZ hown (host := "") (Or.inl (hw _ (List.mem_of_getElem? (i := 35) rfl))) Via.refl e26 f29 f28 (Or.inr ⟨(hw _ (List.mem_of_getElem? (i := 36) rfl)), rfl, hnm⟩) (hw _ (List.mem_of_getElem? (i := 1) rfl)) (ty := .long) (by decide) rfl rfl (g := (mkF m 34 #[.val (.ref a_1), .val (.ref a_2), .val (.ref a_3), .val (.ref a_4), .val (.ref a_5), .val (.ref a_6), .val (.long q_7), .second, .val (.long q_8), .second] [(.long q_7), (.ref a_1)])) rfl rfl (hb hby own_d1_34)
  have z31 := W30.size
  have K30 : Keep h0 h30 [a_1] := K26.wr W30 (Or.inl (List.mem_of_getElem? (i := 0) rfl))
  have N30 := Fr.snoc X30 N26 (by omega : n0 ≤ a_1)
  have Fw30 : Fld Z h30 a_1 "com/example/orderly_storefront/orderlystorefront/order/OrderLine" "quantity" "J" (.long q_7) := Fld.same W30 f29
  refine own_go (fun _ k => st30 _ k) ?_
  show own_Go _ _ _ _ T30 (mkF m 37 #[.val (.ref a_1), .val (.ref a_2), .val (.ref a_3), .val (.ref a_4), .val (.ref a_5), .val (.ref a_6), .val (.long q_7), .second, .val (.long q_8), .second] [])
  refine own_go (fun _ k => XS.aloadN X30.here hx rfl (hb hby own_d1_37) rfl rfl k) ?_
  show own_Go _ _ _ _ T30 (mkF m 38 #[.val (.ref a_1), .val (.ref a_2), .val (.ref a_3), .val (.ref a_4), .val (.ref a_5), .val (.ref a_6), .val (.long q_7), .second, .val (.long q_8), .second] [(.ref a_1)])
  refine own_go (fun _ k => XS.lload X30.here hx rfl (hb hby own_d1_38) rfl k) ?_
  show own_Go _ _ _ _ T30 (mkF m 40 #[.val (.ref a_1), .val (.ref a_2), .val (.ref a_3), .val (.ref a_4), .val (.ref a_5), .val (.ref a_6), .val (.long q_7), .second, .val (.long q_8), .second] [(.long q_8), (.ref a_1)])
  have f32 : Exa Z h30 a_1 "com/example/orderly_storefront/orderlystorefront/order/OrderLine" := (f28.wr W30)
  have f33 : Fld Z h30 a_1 "com/example/orderly_storefront/orderlystorefront/order/OrderLine" "unitPrice" "J" (.long w_unitPrice_a_1) := ((((((pr_F_a_1_unitPrice.other W10 (Or.inr (slot_ne (Or.inr (hw _ (List.mem_of_getElem? (i := 38) rfl))) (Or.inr (hw _ (List.mem_of_getElem? (i := 26) rfl))) (by decide) (t := .long) (t' := (.object "java/lang/String")) (by decide) (by decide)))).other W14 (Or.inr (slot_ne (Or.inr (hw _ (List.mem_of_getElem? (i := 38) rfl))) (Or.inr (hw _ (List.mem_of_getElem? (i := 28) rfl))) (by decide) (t := .long) (t' := (.object "java/lang/String")) (by decide) (by decide)))).other W18 (Or.inr (slot_ne (Or.inr (hw _ (List.mem_of_getElem? (i := 38) rfl))) (Or.inr (hw _ (List.mem_of_getElem? (i := 30) rfl))) (by decide) (t := .long) (t' := (.object "java/lang/String")) (by decide) (by decide)))).other W22 (Or.inr (slot_ne (Or.inr (hw _ (List.mem_of_getElem? (i := 38) rfl))) (Or.inr (hw _ (List.mem_of_getElem? (i := 32) rfl))) (by decide) (t := .long) (t' := (.object "java/lang/String")) (by decide) (by decide)))).other W26 (Or.inr (slot_ne (Or.inr (hw _ (List.mem_of_getElem? (i := 38) rfl))) (Or.inr (hw _ (List.mem_of_getElem? (i := 34) rfl))) (by decide) (t := .long) (t' := (.object "java/lang/String")) (by decide) (by decide)))).other W30 (Or.inr (slot_ne (Or.inr (hw _ (List.mem_of_getElem? (i := 38) rfl))) (Or.inr (hw _ (List.mem_of_getElem? (i := 36) rfl))) (by decide) (t := .long) (t' := .long) (by decide) (by decide))))
  obtain ⟨T34, h34, X34, e34, W34, st34⟩ := putF X30 hx hZ hown (host := "") (Or.inl (hw _ (List.mem_of_getElem? (i := 37) rfl))) Via.refl e30 f33 f32 (Or.inr ⟨(hw _ (List.mem_of_getElem? (i := 38) rfl)), rfl, hnm⟩) (hw _ (List.mem_of_getElem? (i := 1) rfl)) (ty := .long) (by decide) rfl rfl (g := (mkF m 40 #[.val (.ref a_1), .val (.ref a_2), .val (.ref a_3), .val (.ref a_4), .val (.ref a_5), .val (.ref a_6), .val (.long q_7), .second, .val (.long q_8), .second] [(.long q_8), (.ref a_1)])) rfl rfl (hb hby own_d1_40)
  have z35 := W34.size
  have K34 : Keep h0 h34 [a_1] := K30.wr W34 (Or.inl (List.mem_of_getElem? (i := 0) rfl))
  have N34 := Fr.snoc X34 N30 (by omega : n0 ≤ a_1)
  have Fw34 : Fld Z h34 a_1 "com/example/orderly_storefront/orderlystorefront/order/OrderLine" "unitPrice" "J" (.long q_8) := Fld.same W34 f33
  refine own_go (fun _ k => st34 _ k) ?_
  show own_Go _ _ _ _ T34 (mkF m 43 #[.val (.ref a_1), .val (.ref a_2), .val (.ref a_3), .val (.ref a_4), .val (.ref a_5), .val (.ref a_6), .val (.long q_7), .second, .val (.long q_8), .second] [])
  obtain ⟨fs, hr, hrun, hended, hW, hsame⟩ := X34.leave (v := none) (fun _ => rfl)
  refine ⟨_, _, X34.returnOut hx Bd.returns (hb hby own_d1_43) hr, hrun, hended, _, _, rfl, ?_, ⟨_, rfl⟩, hW, hsame.mono (by rw [y9]; decide) (by rw [z9]; decide)⟩
  show own_Q1 Z a_1 a_2 a_3 a_4 a_5 a_6 q_7 q_8 w_id_a_1 w_variantId_a_1 w_sku_a_1 w_productTitle_a_1 w_variantTitle_a_1 w_quantity_a_1 w_unitPrice_a_1 h0 n0 _ T34.heap _
  rw [e34]
  have f37 : Exa Z h34 a_1 "com/example/orderly_storefront/orderlystorefront/order/OrderLine" := (f32.wr W34)
  have f38 : Fld Z h34 a_1 "com/example/orderly_storefront/orderlystorefront/order/OrderLine" "id" "Ljava/lang/String;" (.ref a_2) := ((((((Fw10.other W14 (Or.inr (slot_ne (Or.inr (hw _ (List.mem_of_getElem? (i := 26) rfl))) (Or.inr (hw _ (List.mem_of_getElem? (i := 28) rfl))) (by decide) (t := (.object "java/lang/String")) (t' := (.object "java/lang/String")) (by decide) (by decide)))).other W18 (Or.inr (slot_ne (Or.inr (hw _ (List.mem_of_getElem? (i := 26) rfl))) (Or.inr (hw _ (List.mem_of_getElem? (i := 30) rfl))) (by decide) (t := (.object "java/lang/String")) (t' := (.object "java/lang/String")) (by decide) (by decide)))).other W22 (Or.inr (slot_ne (Or.inr (hw _ (List.mem_of_getElem? (i := 26) rfl))) (Or.inr (hw _ (List.mem_of_getElem? (i := 32) rfl))) (by decide) (t := (.object "java/lang/String")) (t' := (.object "java/lang/String")) (by decide) (by decide)))).other W26 (Or.inr (slot_ne (Or.inr (hw _ (List.mem_of_getElem? (i := 26) rfl))) (Or.inr (hw _ (List.mem_of_getElem? (i := 34) rfl))) (by decide) (t := (.object "java/lang/String")) (t' := (.object "java/lang/String")) (by decide) (by decide)))).other W30 (Or.inr (slot_ne (Or.inr (hw _ (List.mem_of_getElem? (i := 26) rfl))) (Or.inr (hw _ (List.mem_of_getElem? (i := 36) rfl))) (by decide) (t := (.object "java/lang/String")) (t' := .long) (by decide) (by decide)))).other W34 (Or.inr (slot_ne (Or.inr (hw _ (List.mem_of_getElem? (i := 26) rfl))) (Or.inr (hw _ (List.mem_of_getElem? (i := 38) rfl))) (by decide) (t := (.object "java/lang/String")) (t' := .long) (by decide) (by decide))))
  have f39 : Fld Z h34 a_1 "com/example/orderly_storefront/orderlystorefront/order/OrderLine" "variantId" "Ljava/lang/String;" (.ref a_3) := (((((Fw14.other W18 (Or.inr (slot_ne (Or.inr (hw _ (List.mem_of_getElem? (i := 28) rfl))) (Or.inr (hw _ (List.mem_of_getElem? (i := 30) rfl))) (by decide) (t := (.object "java/lang/String")) (t' := (.object "java/lang/String")) (by decide) (by decide)))).other W22 (Or.inr (slot_ne (Or.inr (hw _ (List.mem_of_getElem? (i := 28) rfl))) (Or.inr (hw _ (List.mem_of_getElem? (i := 32) rfl))) (by decide) (t := (.object "java/lang/String")) (t' := (.object "java/lang/String")) (by decide) (by decide)))).other W26 (Or.inr (slot_ne (Or.inr (hw _ (List.mem_of_getElem? (i := 28) rfl))) (Or.inr (hw _ (List.mem_of_getElem? (i := 34) rfl))) (by decide) (t := (.object "java/lang/String")) (t' := (.object "java/lang/String")) (by decide) (by decide)))).other W30 (Or.inr (slot_ne (Or.inr (hw _ (List.mem_of_getElem? (i := 28) rfl))) (Or.inr (hw _ (List.mem_of_getElem? (i := 36) rfl))) (by decide) (t := (.object "java/lang/String")) (t' := .long) (by decide) (by decide)))).other W34 (Or.inr (slot_ne (Or.inr (hw _ (List.mem_of_getElem? (i := 28) rfl))) (Or.inr (hw _ (List.mem_of_getElem? (i := 38) rfl))) (by decide) (t := (.object "java/lang/String")) (t' := .long) (by decide) (by decide))))
  have f40 : Fld Z h34 a_1 "com/example/orderly_storefront/orderlystorefront/order/OrderLine" "sku" "Ljava/lang/String;" (.ref a_4) := ((((Fw18.other W22 (Or.inr (slot_ne (Or.inr (hw _ (List.mem_of_getElem? (i := 30) rfl))) (Or.inr (hw _ (List.mem_of_getElem? (i := 32) rfl))) (by decide) (t := (.object "java/lang/String")) (t' := (.object "java/lang/String")) (by decide) (by decide)))).other W26 (Or.inr (slot_ne (Or.inr (hw _ (List.mem_of_getElem? (i := 30) rfl))) (Or.inr (hw _ (List.mem_of_getElem? (i := 34) rfl))) (by decide) (t := (.object "java/lang/String")) (t' := (.object "java/lang/String")) (by decide) (by decide)))).other W30 (Or.inr (slot_ne (Or.inr (hw _ (List.mem_of_getElem? (i := 30) rfl))) (Or.inr (hw _ (List.mem_of_getElem? (i := 36) rfl))) (by decide) (t := (.object "java/lang/String")) (t' := .long) (by decide) (by decide)))).other W34 (Or.inr (slot_ne (Or.inr (hw _ (List.mem_of_getElem? (i := 30) rfl))) (Or.inr (hw _ (List.mem_of_getElem? (i := 38) rfl))) (by decide) (t := (.object "java/lang/String")) (t' := .long) (by decide) (by decide))))
  have f41 : Fld Z h34 a_1 "com/example/orderly_storefront/orderlystorefront/order/OrderLine" "productTitle" "Ljava/lang/String;" (.ref a_5) := (((Fw22.other W26 (Or.inr (slot_ne (Or.inr (hw _ (List.mem_of_getElem? (i := 32) rfl))) (Or.inr (hw _ (List.mem_of_getElem? (i := 34) rfl))) (by decide) (t := (.object "java/lang/String")) (t' := (.object "java/lang/String")) (by decide) (by decide)))).other W30 (Or.inr (slot_ne (Or.inr (hw _ (List.mem_of_getElem? (i := 32) rfl))) (Or.inr (hw _ (List.mem_of_getElem? (i := 36) rfl))) (by decide) (t := (.object "java/lang/String")) (t' := .long) (by decide) (by decide)))).other W34 (Or.inr (slot_ne (Or.inr (hw _ (List.mem_of_getElem? (i := 32) rfl))) (Or.inr (hw _ (List.mem_of_getElem? (i := 38) rfl))) (by decide) (t := (.object "java/lang/String")) (t' := .long) (by decide) (by decide))))
  have f42 : Fld Z h34 a_1 "com/example/orderly_storefront/orderlystorefront/order/OrderLine" "variantTitle" "Ljava/lang/String;" (.ref a_6) := ((Fw26.other W30 (Or.inr (slot_ne (Or.inr (hw _ (List.mem_of_getElem? (i := 34) rfl))) (Or.inr (hw _ (List.mem_of_getElem? (i := 36) rfl))) (by decide) (t := (.object "java/lang/String")) (t' := .long) (by decide) (by decide)))).other W34 (Or.inr (slot_ne (Or.inr (hw _ (List.mem_of_getElem? (i := 34) rfl))) (Or.inr (hw _ (List.mem_of_getElem? (i := 38) rfl))) (by decide) (t := (.object "java/lang/String")) (t' := .long) (by decide) (by decide))))
  have f43 : Fld Z h34 a_1 "com/example/orderly_storefront/orderlystorefront/order/OrderLine" "quantity" "J" (.long q_7) := (Fw30.other W34 (Or.inr (slot_ne (Or.inr (hw _ (List.mem_of_getElem? (i := 36) rfl))) (Or.inr (hw _ (List.mem_of_getElem? (i := 38) rfl))) (by decide) (t := .long) (t' := .long) (by decide) (by decide))))
  exact ⟨rfl, N34, K34, f37, f38, f39, f40, f41, f42, f43, Fw34⟩
theorem own_d6_0 : decode jdk_29_method_61_code 0 = .ok (.lload_n 0, 1) := by decide +kernel
theorem own_d6_1 : decode jdk_29_method_61_code 1 = .ok (.lconst 0, 1) := by decide +kernel
theorem own_d6_2 : decode jdk_29_method_61_code 2 = .ok (.lcmp, 1) := by decide +kernel
theorem own_d6_3 : decode jdk_29_method_61_code 3 = .ok (.ifCond .ge 8, 3) := by decide +kernel
theorem own_d6_6 : decode jdk_29_method_61_code 6 = .ok (.lload_n 0, 1) := by decide +kernel
theorem own_d6_7 : decode jdk_29_method_61_code 7 = .ok (.lneg, 1) := by decide +kernel
theorem own_d6_8 : decode jdk_29_method_61_code 8 = .ok (.goto 4, 3) := by decide +kernel
theorem own_d6_11 : decode jdk_29_method_61_code 11 = .ok (.lload_n 0, 1) := by decide +kernel
theorem own_d6_12 : decode jdk_29_method_61_code 12 = .ok (.lreturn, 1) := by decide +kernel
theorem own_ef_own_rm6 (m : MethodId) (x0 : Int64) : entryFrame m #[(.long x0)] 2 = mkF m 0 #[.val (.long x0), .second] [] := by first | (simp [entryFrame, mkF, argsToLocals, Value.category]; done) | rfl
def own_rm6_ret (q_1 : Int64) : Int64 := if q_1 < (0 : Int64) then (-q_1) else q_1
def own_Q6 (Z : State) (q_1 : Int64) (h0 : Heap) (n0 : Nat) (v : Option Value) (h : Heap) (L : List Loc) : Prop := ∃ (r_ : Int64), v = some (.long r_) ∧ Fr n0 L ∧ r_ = (own_rm6_ret q_1) ∧ h = h0
set_option maxRecDepth 65536 in
set_option maxHeartbeats 40000000 in
theorem own_rm6 (l : Launch) (Z : State) (a0 : Array Value) (hw : ∀ d ∈ tables_1, d.before a0 Z = true) (ws : List Jvm.Cond) (q_1 : Int64) (h0 : Heap) (n0 : Nat) (Z0 : n0 ≤ h0.size) :
    MetFree l (⟨"java/lang/Math", "abs", "(J)J"⟩ : MethodName) (head1 (Jvm.Cond.code (⟨"java/lang/Math", "abs", "(J)J"⟩ : MethodName) jdk_29_method_61_code 2 (some .long) :: ws) ({ frames := 0, cells := 0, slots := 0, locals := 0 } : Room)) (fun a U => a = #[(.long q_1)] ∧ Z.Warmed39 U.vm ∧ U.heap = h0) (fun _ _ _ _ _ => True) (fun _ U o U' => ∃ v L, o = .returned v ∧ own_Q6 Z q_1 h0 n0 v U'.heap L ∧ FrameEnd U o U' L ({ frames := 0, cells := 0, slots := 0, locals := 0 } : Room).cells ({ frames := 0, cells := 0, slots := 0, locals := 0 } : Room).slots) := by
  refine MetFree.of_bodySF (Jvm.Free.JP.mathPlain rfl (by decide +kernel)) hisR ?_
  intro p e s m args below meth c s₁ Bd hml0 hP hK
  obtain ⟨rfl, hZ, hh⟩ := hP
  have hx := Bd.exec
  have hby := Bd.bytes
  have hml : c.maxLocals = 2 := hml0
  have hown : s.vm.findClass "java/lang/Math" = some m.cls := findClass_of_methodNamed Bd.named
  have hnm := (name_of_methodNamed Bd.named Bd.method).1
  have X0 : Stand p l e ({ frames := 0, cells := 0, slots := 0, locals := 0 } : Room) s m #[(.long q_1)] below meth c s₁ [] 0 0 := Stand.of_body Bd
  have e0 : s₁.heap = h0 := by rw [← hh, Bd.state]; rfl
  have N0 := Fr.nil n0
  have z0 : n0 ≤ h0.size := Z0
  show own_Go p.tables e below (fun t o => t.status = .running ∧ Ended t below o ∧ ∃ v L, o = .returned v ∧ own_Q6 Z q_1 h0 n0 v t.heap L ∧ FrameEnd s o t L ({ frames := 0, cells := 0, slots := 0, locals := 0 } : Room).cells ({ frames := 0, cells := 0, slots := 0, locals := 0 } : Room).slots) s₁ (entryFrame m #[(.long q_1)] 2)
  rw [own_ef_own_rm6 m q_1]
  show own_Go _ _ _ _ s₁ (mkF m 0 #[.val (.long q_1), .second] [])
  refine own_go (fun _ k => XS.lloadN X0.here hx rfl (hb hby own_d6_0) rfl k) ?_
  show own_Go _ _ _ _ s₁ (mkF m 1 #[.val (.long q_1), .second] [(.long q_1)])
  refine own_go (fun _ k => XS.lconst X0.here hx rfl (hb hby own_d6_1) k) ?_
  show own_Go _ _ _ _ s₁ (mkF m 2 #[.val (.long q_1), .second] [(.long (0 : Int64)), (.long q_1)])
  refine own_go (fun _ k => XS.lcmp X0.here hx rfl (hb hby own_d6_2) rfl k) ?_
  show own_Go _ _ _ _ s₁ (mkF m 3 #[.val (.long q_1), .second] [(.int (lcmpW q_1 (0 : Int64)))])
  by_cases hc1 : q_1 < (0 : Int64)
  · refine own_go (fun _ k => XS.ifNo X0.here hx rfl (hb hby own_d6_3) rfl (Jvm.Free.XT.ll_ge_f hc1) k) ?_
    show own_Go _ _ _ _ s₁ (mkF m 6 #[.val (.long q_1), .second] [])
    refine own_go (fun _ k => XS.lloadN X0.here hx rfl (hb hby own_d6_6) rfl k) ?_
    show own_Go _ _ _ _ s₁ (mkF m 7 #[.val (.long q_1), .second] [(.long q_1)])
    refine own_go (fun _ k => XS.lneg X0.here hx rfl (hb hby own_d6_7) rfl k) ?_
    show own_Go _ _ _ _ s₁ (mkF m 8 #[.val (.long q_1), .second] [(.long (-q_1))])
    refine own_go (fun _ k => XS.goto X0.here hx rfl (pc0 := 8) (pc' := 12) rfl (hb hby own_d6_8) (by decide) (by decide) k) ?_
    show own_Go _ _ _ _ s₁ (mkF m 12 #[.val (.long q_1), .second] [(.long (-q_1))])
    obtain ⟨fs, hr, hrun, hended, hW, hsame⟩ := X0.leave (v := some (.long (-q_1))) (fun h => by rw [Bd.returns] at h; cases h)
    refine ⟨_, _, retOut X0 hx Bd.returns rfl (Or.inr (Or.inl ⟨rfl, rfl, _, rfl⟩)) (hb hby own_d6_12) hr, hrun, hended, _, _, rfl, ?_, ⟨_, rfl⟩, hW, hsame.mono (by decide) (by decide)⟩
    show own_Q6 Z q_1 h0 n0 _ s₁.heap _
    rw [e0]
    exact ⟨_, rfl, N0, (by first | rfl | simp only [own_rm6_ret, if_pos hc1]), rfl⟩
  · refine own_go (fun _ k => XS.ifYes X0.here hx rfl (pc0 := 3) (pc' := 11) rfl (hb hby own_d6_3) rfl (Jvm.Free.XT.ll_ge_t hc1) (by decide) (by decide) k) ?_
    show own_Go _ _ _ _ s₁ (mkF m 11 #[.val (.long q_1), .second] [])
    refine own_go (fun _ k => XS.lloadN X0.here hx rfl (hb hby own_d6_11) rfl k) ?_
    show own_Go _ _ _ _ s₁ (mkF m 12 #[.val (.long q_1), .second] [(.long q_1)])
    obtain ⟨fs, hr, hrun, hended, hW, hsame⟩ := X0.leave (v := some (.long q_1)) (fun h => by rw [Bd.returns] at h; cases h)
    refine ⟨_, _, retOut X0 hx Bd.returns rfl (Or.inr (Or.inl ⟨rfl, rfl, _, rfl⟩)) (hb hby own_d6_12) hr, hrun, hended, _, _, rfl, ?_, ⟨_, rfl⟩, hW, hsame.mono (by decide) (by decide)⟩
    show own_Q6 Z q_1 h0 n0 _ s₁.heap _
    rw [e0]
    exact ⟨_, rfl, N0, (by first | rfl | simp only [own_rm6_ret, if_neg hc1]), rfl⟩
theorem own_d5_0 : decode jdk_29_method_30_code 0 = .ok (.lload_n 0, 1) := by decide +kernel
theorem own_d5_1 : decode jdk_29_method_30_code 1 = .ok (.lload_n 2, 1) := by decide +kernel
theorem own_d5_2 : decode jdk_29_method_30_code 2 = .ok (.lmul, 1) := by decide +kernel
theorem own_d5_3 : decode jdk_29_method_30_code 3 = .ok (.lstore 4, 2) := by decide +kernel
theorem own_d5_5 : decode jdk_29_method_30_code 5 = .ok (.lload_n 0, 1) := by decide +kernel
theorem own_d5_6 : decode jdk_29_method_30_code 6 = .ok (.invokestatic 122, 3) := by decide +kernel
theorem own_d5_9 : decode jdk_29_method_30_code 9 = .ok (.lstore 6, 2) := by decide +kernel
theorem own_d5_11 : decode jdk_29_method_30_code 11 = .ok (.lload_n 2, 1) := by decide +kernel
theorem own_d5_12 : decode jdk_29_method_30_code 12 = .ok (.invokestatic 122, 3) := by decide +kernel
theorem own_d5_15 : decode jdk_29_method_30_code 15 = .ok (.lstore 8, 2) := by decide +kernel
theorem own_d5_17 : decode jdk_29_method_30_code 17 = .ok (.lload 6, 2) := by decide +kernel
theorem own_d5_19 : decode jdk_29_method_30_code 19 = .ok (.lload 8, 2) := by decide +kernel
theorem own_d5_21 : decode jdk_29_method_30_code 21 = .ok (.lor, 1) := by decide +kernel
theorem own_d5_22 : decode jdk_29_method_30_code 22 = .ok (.bipush 31, 2) := by decide +kernel
theorem own_d5_24 : decode jdk_29_method_30_code 24 = .ok (.lushr, 1) := by decide +kernel
theorem own_d5_25 : decode jdk_29_method_30_code 25 = .ok (.lconst 0, 1) := by decide +kernel
theorem own_d5_26 : decode jdk_29_method_30_code 26 = .ok (.lcmp, 1) := by decide +kernel
theorem own_d5_27 : decode jdk_29_method_30_code 27 = .ok (.ifCond .eq 44, 3) := by decide +kernel
theorem own_d5_30 : decode jdk_29_method_30_code 30 = .ok (.lload_n 2, 1) := by decide +kernel
theorem own_d5_31 : decode jdk_29_method_30_code 31 = .ok (.lconst 0, 1) := by decide +kernel
theorem own_d5_32 : decode jdk_29_method_30_code 32 = .ok (.lcmp, 1) := by decide +kernel
theorem own_d5_33 : decode jdk_29_method_30_code 33 = .ok (.ifCond .eq 12, 3) := by decide +kernel
theorem own_d5_36 : decode jdk_29_method_30_code 36 = .ok (.lload 4, 2) := by decide +kernel
theorem own_d5_38 : decode jdk_29_method_30_code 38 = .ok (.lload_n 2, 1) := by decide +kernel
theorem own_d5_39 : decode jdk_29_method_30_code 39 = .ok (.ldiv, 1) := by decide +kernel
theorem own_d5_40 : decode jdk_29_method_30_code 40 = .ok (.lload_n 0, 1) := by decide +kernel
theorem own_d5_41 : decode jdk_29_method_30_code 41 = .ok (.lcmp, 1) := by decide +kernel
theorem own_d5_42 : decode jdk_29_method_30_code 42 = .ok (.ifCond .ne 19, 3) := by decide +kernel
theorem own_d5_45 : decode jdk_29_method_30_code 45 = .ok (.lload_n 0, 1) := by decide +kernel
theorem own_d5_46 : decode jdk_29_method_30_code 46 = .ok (.ldc2_w 128, 3) := by decide +kernel
theorem own_d5_49 : decode jdk_29_method_30_code 49 = .ok (.lcmp, 1) := by decide +kernel
theorem own_d5_50 : decode jdk_29_method_30_code 50 = .ok (.ifCond .ne 21, 3) := by decide +kernel
theorem own_d5_71 : decode jdk_29_method_30_code 71 = .ok (.lload 4, 2) := by decide +kernel
theorem own_d5_73 : decode jdk_29_method_30_code 73 = .ok (.lreturn, 1) := by decide +kernel
theorem own_ef_own_rm5 (m : MethodId) (x0 : Int64) (x1 : Int64) : entryFrame m #[(.long x0), (.long x1)] 10 = mkF m 0 #[.val (.long x0), .second, .val (.long x1), .second, .unset, .unset, .unset, .unset, .unset, .unset] [] := by first | (simp [entryFrame, mkF, argsToLocals, Value.category]; done) | rfl
set_option maxRecDepth 65536 in
set_option maxHeartbeats 4000000 in
theorem own_t5_0 (q_1 : Int64) (q_2 : Int64) (r2 : Int64) (r4 : Int64) (hm : -9223372036854775808 ≤ q_1.toInt * q_2.toInt ∧ q_1.toInt * q_2.toInt < 9223372036854775808) (hx0 : ¬ (q_1 = (-9223372036854775808 : Int64))) (hr_r2 : r2 = (own_rm6_ret q_1)) (hr_r4 : r4 = (own_rm6_ret q_2)) (hc5 : ¬ ((((r2 ||| r4).toUInt64 >>> ((31 : Int32) &&& 0x3f).toInt64.toUInt64).toInt64) = (0 : Int64))) (hc7 : ¬ (q_2 = (0 : Int64))) : q_2 ≠ 0 := by
  assumption
set_option maxRecDepth 65536 in
set_option maxHeartbeats 4000000 in
theorem own_t5_1 (q_1 : Int64) (q_2 : Int64) (r2 : Int64) (r4 : Int64) (hm : -9223372036854775808 ≤ q_1.toInt * q_2.toInt ∧ q_1.toInt * q_2.toInt < 9223372036854775808) (hx0 : ¬ (q_1 = (-9223372036854775808 : Int64))) (hr_r2 : r2 = (own_rm6_ret q_1)) (hr_r4 : r4 = (own_rm6_ret q_2)) (hc5 : ¬ ((((r2 ||| r4).toUInt64 >>> ((31 : Int32) &&& 0x3f).toInt64.toUInt64).toInt64) = (0 : Int64))) (hc7 : ¬ (q_2 = (0 : Int64))) : ((q_1 * q_2) / q_2) = q_1 := by
  exact Jvm.Free.XT.mulDiv64 (by unfold Jvm.Free.XT.fits64; omega) (by assumption)
def own_Q5 (Z : State) (q_1 : Int64) (q_2 : Int64) (h0 : Heap) (n0 : Nat) (v : Option Value) (h : Heap) (L : List Loc) : Prop := ∃ (r_ : Int64), v = some (.long r_) ∧ Fr n0 L ∧ r_ = (q_1 * q_2) ∧ h = h0
set_option maxRecDepth 65536 in
set_option maxHeartbeats 40000000 in
theorem own_rm5 (l : Launch) (Z : State) (a0 : Array Value) (hw : ∀ d ∈ tables_1, d.before a0 Z = true) (ws : List Jvm.Cond) (q_1 : Int64) (q_2 : Int64) (h0 : Heap) (n0 : Nat) (Z0 : n0 ≤ h0.size) (hm : -9223372036854775808 ≤ q_1.toInt * q_2.toInt ∧ q_1.toInt * q_2.toInt < 9223372036854775808) (hx0 : ¬ (q_1 = (-9223372036854775808 : Int64))) :
    MetFree l (⟨"java/lang/Math", "multiplyExact", "(JJ)J"⟩ : MethodName) (head1 (Jvm.Cond.code (⟨"java/lang/Math", "multiplyExact", "(JJ)J"⟩ : MethodName) jdk_29_method_30_code 10 (some .long) :: ws) ({ frames := 1, cells := 0, slots := 0, locals := 13 } : Room)) (fun a U => a = #[(.long q_1), (.long q_2)] ∧ Z.Warmed39 U.vm ∧ U.heap = h0) (fun _ _ _ _ _ => True) (fun _ U o U' => ∃ v L, o = .returned v ∧ own_Q5 Z q_1 q_2 h0 n0 v U'.heap L ∧ FrameEnd U o U' L ({ frames := 1, cells := 0, slots := 0, locals := 13 } : Room).cells ({ frames := 1, cells := 0, slots := 0, locals := 13 } : Room).slots) := by
  refine MetFree.of_bodySF (Jvm.Free.JP.mathPlain rfl (by decide +kernel)) hisR ?_
  intro p e s m args below meth c s₁ Bd hml0 hP hK
  obtain ⟨rfl, hZ, hh⟩ := hP
  have hx := Bd.exec
  have hby := Bd.bytes
  have hml : c.maxLocals = 10 := hml0
  have hown : s.vm.findClass "java/lang/Math" = some m.cls := findClass_of_methodNamed Bd.named
  have hnm := (name_of_methodNamed Bd.named Bd.method).1
  have X0 : Stand p l e ({ frames := 1, cells := 0, slots := 0, locals := 13 } : Room) s m #[(.long q_1), (.long q_2)] below meth c s₁ [] 0 0 := Stand.of_body Bd
  have e0 : s₁.heap = h0 := by rw [← hh, Bd.state]; rfl
  have N0 := Fr.nil n0
  have z0 : n0 ≤ h0.size := Z0
  show own_Go p.tables e below (fun t o => t.status = .running ∧ Ended t below o ∧ ∃ v L, o = .returned v ∧ own_Q5 Z q_1 q_2 h0 n0 v t.heap L ∧ FrameEnd s o t L ({ frames := 1, cells := 0, slots := 0, locals := 13 } : Room).cells ({ frames := 1, cells := 0, slots := 0, locals := 13 } : Room).slots) s₁ (entryFrame m #[(.long q_1), (.long q_2)] 10)
  rw [own_ef_own_rm5 m q_1 q_2]
  show own_Go _ _ _ _ s₁ (mkF m 0 #[.val (.long q_1), .second, .val (.long q_2), .second, .unset, .unset, .unset, .unset, .unset, .unset] [])
  refine own_go (fun _ k => XS.lloadN X0.here hx rfl (hb hby own_d5_0) rfl k) ?_
  show own_Go _ _ _ _ s₁ (mkF m 1 #[.val (.long q_1), .second, .val (.long q_2), .second, .unset, .unset, .unset, .unset, .unset, .unset] [(.long q_1)])
  refine own_go (fun _ k => XS.lloadN X0.here hx rfl (hb hby own_d5_1) rfl k) ?_
  show own_Go _ _ _ _ s₁ (mkF m 2 #[.val (.long q_1), .second, .val (.long q_2), .second, .unset, .unset, .unset, .unset, .unset, .unset] [(.long q_2), (.long q_1)])
  refine own_go (fun _ k => XS.lmul X0.here hx rfl (hb hby own_d5_2) rfl k) ?_
  show own_Go _ _ _ _ s₁ (mkF m 3 #[.val (.long q_1), .second, .val (.long q_2), .second, .unset, .unset, .unset, .unset, .unset, .unset] [(.long (q_1 * q_2))])
  refine own_go (fun _ k => XS.lstore X0.here hx rfl (hb hby own_d5_3) rfl (l' := #[.val (.long q_1), .second, .val (.long q_2), .second, .val (.long (q_1 * q_2)), .second, .unset, .unset, .unset, .unset]) rfl k) ?_
  show own_Go _ _ _ _ s₁ (mkF m 5 #[.val (.long q_1), .second, .val (.long q_2), .second, .val (.long (q_1 * q_2)), .second, .unset, .unset, .unset, .unset] [])
  refine own_go (fun _ k => XS.lloadN X0.here hx rfl (hb hby own_d5_5) rfl k) ?_
  show own_Go _ _ _ _ s₁ (mkF m 6 #[.val (.long q_1), .second, .val (.long q_2), .second, .val (.long (q_1 * q_2)), .second, .unset, .unset, .unset, .unset] [(.long q_1)])
  obtain ⟨_, _, ⟨T1, L1, k1, n1⟩, -, X1, ⟨Lc1, hQ1, l1, y1, z1⟩, st1⟩ := Jvm.LawKit.callS X0 hx (y := (⟨"java/lang/Math", "abs", "(J)J"⟩ : MethodName)) hown (mvT hZ (hw _ (List.mem_of_getElem? (i := 49) rfl))) (mvT hZ (hw _ (List.mem_of_getElem? (i := 50) rfl))) (mvT hZ (hw _ (List.mem_of_getElem? (i := 47) rfl))) (mvT hZ (hw _ (List.mem_of_getElem? (i := 51) rfl))) (by decide) (backOf (W := 0) (own_rm6 l Z a0 hw [] q_1  h0 n0 (by omega) ) hZ (hw _ (List.mem_of_getElem? (i := 51) rfl)) (hw _ (List.mem_of_getElem? (i := 47) rfl)) (by decide) (by decide)) (g := (mkF m 6 #[.val (.long q_1), .second, .val (.long q_2), .second, .val (.long (q_1 * q_2)), .second, .unset, .unset, .unset, .unset] [(.long q_1)])) rfl (by rw [hml]; rfl) (argsL := [(.long q_1)]) (rest := []) (lenOf own_pd1 rfl) rfl (by show 2 * 0 + _ ≤ _; exact Nat.le_of_eq rfl) (hb hby own_d5_6) (fun _ _ => ⟨rfl, e0, (by decide : 0 + 0 ≤ _), (by decide : 0 + 0 ≤ _)⟩)
  dsimp only [Pt.U, Pt.locs, Pt.cells, Pt.slots] at X1 l1 y1 z1 st1 hQ1
  have y1 : k1 = 0 := y1
  have z1 : n1 = 0 := z1
  obtain ⟨r2, rfl, N1q, hr_r2, e1⟩ := hQ1
  have N1 : Fr n0 L1 := by rw [l1]; exact Fr.app N0 N1q
  refine own_go (fun _ k => st1 _ k) ?_
  show own_Go _ _ _ _ T1 (mkF m 9 #[.val (.long q_1), .second, .val (.long q_2), .second, .val (.long (q_1 * q_2)), .second, .unset, .unset, .unset, .unset] [(.long r2)])
  refine own_go (fun _ k => XS.lstore X1.here hx rfl (hb hby own_d5_9) rfl (l' := #[.val (.long q_1), .second, .val (.long q_2), .second, .val (.long (q_1 * q_2)), .second, .val (.long r2), .second, .unset, .unset]) rfl k) ?_
  show own_Go _ _ _ _ T1 (mkF m 11 #[.val (.long q_1), .second, .val (.long q_2), .second, .val (.long (q_1 * q_2)), .second, .val (.long r2), .second, .unset, .unset] [])
  refine own_go (fun _ k => XS.lloadN X1.here hx rfl (hb hby own_d5_11) rfl k) ?_
  show own_Go _ _ _ _ T1 (mkF m 12 #[.val (.long q_1), .second, .val (.long q_2), .second, .val (.long (q_1 * q_2)), .second, .val (.long r2), .second, .unset, .unset] [(.long q_2)])
  obtain ⟨_, _, ⟨T3, L3, k3, n3⟩, -, X3, ⟨Lc3, hQ3, l3, y3, z3⟩, st3⟩ := Jvm.LawKit.callS X1 hx (y := (⟨"java/lang/Math", "abs", "(J)J"⟩ : MethodName)) hown (mvT hZ (hw _ (List.mem_of_getElem? (i := 49) rfl))) (mvT hZ (hw _ (List.mem_of_getElem? (i := 50) rfl))) (mvT hZ (hw _ (List.mem_of_getElem? (i := 47) rfl))) (mvT hZ (hw _ (List.mem_of_getElem? (i := 51) rfl))) (by decide) (backOf (W := 0) (own_rm6 l Z a0 hw [] q_2  h0 n0 (by omega) ) hZ (hw _ (List.mem_of_getElem? (i := 51) rfl)) (hw _ (List.mem_of_getElem? (i := 47) rfl)) (by decide) (by decide)) (g := (mkF m 12 #[.val (.long q_1), .second, .val (.long q_2), .second, .val (.long (q_1 * q_2)), .second, .val (.long r2), .second, .unset, .unset] [(.long q_2)])) rfl (by rw [hml]; rfl) (argsL := [(.long q_2)]) (rest := []) (lenOf own_pd1 rfl) rfl (by show 2 * 0 + _ ≤ _; exact Nat.le_of_eq rfl) (hb hby own_d5_12) (fun _ _ => ⟨rfl, e1, (by show k1 + _ ≤ _; rw [y1]; decide), (by show n1 + _ ≤ _; rw [z1]; decide)⟩)
  dsimp only [Pt.U, Pt.locs, Pt.cells, Pt.slots] at X3 l3 y3 z3 st3 hQ3
  have y3 : k3 = 0 := own_addeq y3 (congrArg (fun q => q) y1) rfl
  have z3 : n3 = 0 := own_addeq z3 (congrArg (fun q => q) z1) rfl
  obtain ⟨r4, rfl, N3q, hr_r4, e3⟩ := hQ3
  have N3 : Fr n0 L3 := by rw [l3]; exact Fr.app N1 N3q
  refine own_go (fun _ k => st3 _ k) ?_
  show own_Go _ _ _ _ T3 (mkF m 15 #[.val (.long q_1), .second, .val (.long q_2), .second, .val (.long (q_1 * q_2)), .second, .val (.long r2), .second, .unset, .unset] [(.long r4)])
  refine own_go (fun _ k => XS.lstore X3.here hx rfl (hb hby own_d5_15) rfl (l' := #[.val (.long q_1), .second, .val (.long q_2), .second, .val (.long (q_1 * q_2)), .second, .val (.long r2), .second, .val (.long r4), .second]) rfl k) ?_
  show own_Go _ _ _ _ T3 (mkF m 17 #[.val (.long q_1), .second, .val (.long q_2), .second, .val (.long (q_1 * q_2)), .second, .val (.long r2), .second, .val (.long r4), .second] [])
  refine own_go (fun _ k => XS.lload X3.here hx rfl (hb hby own_d5_17) rfl k) ?_
  show own_Go _ _ _ _ T3 (mkF m 19 #[.val (.long q_1), .second, .val (.long q_2), .second, .val (.long (q_1 * q_2)), .second, .val (.long r2), .second, .val (.long r4), .second] [(.long r2)])
  refine own_go (fun _ k => XS.lload X3.here hx rfl (hb hby own_d5_19) rfl k) ?_
  show own_Go _ _ _ _ T3 (mkF m 21 #[.val (.long q_1), .second, .val (.long q_2), .second, .val (.long (q_1 * q_2)), .second, .val (.long r2), .second, .val (.long r4), .second] [(.long r4), (.long r2)])
  refine own_go (fun _ k => XS.lor X3.here hx rfl (hb hby own_d5_21) rfl k) ?_
  show own_Go _ _ _ _ T3 (mkF m 22 #[.val (.long q_1), .second, .val (.long q_2), .second, .val (.long (q_1 * q_2)), .second, .val (.long r2), .second, .val (.long r4), .second] [(.long (r2 ||| r4))])
  refine own_go (fun _ k => XS.bipush X3.here hx rfl (hb hby own_d5_22) k) ?_
  show own_Go _ _ _ _ T3 (mkF m 24 #[.val (.long q_1), .second, .val (.long q_2), .second, .val (.long (q_1 * q_2)), .second, .val (.long r2), .second, .val (.long r4), .second] [(.int (31 : Int32)), (.long (r2 ||| r4))])
  refine own_go (fun _ k => XS.lushr X3.here hx rfl (hb hby own_d5_24) rfl k) ?_
  show own_Go _ _ _ _ T3 (mkF m 25 #[.val (.long q_1), .second, .val (.long q_2), .second, .val (.long (q_1 * q_2)), .second, .val (.long r2), .second, .val (.long r4), .second] [(.long (((r2 ||| r4).toUInt64 >>> ((31 : Int32) &&& 0x3f).toInt64.toUInt64).toInt64))])
  refine own_go (fun _ k => XS.lconst X3.here hx rfl (hb hby own_d5_25) k) ?_
  show own_Go _ _ _ _ T3 (mkF m 26 #[.val (.long q_1), .second, .val (.long q_2), .second, .val (.long (q_1 * q_2)), .second, .val (.long r2), .second, .val (.long r4), .second] [(.long (0 : Int64)), (.long (((r2 ||| r4).toUInt64 >>> ((31 : Int32) &&& 0x3f).toInt64.toUInt64).toInt64))])
  refine own_go (fun _ k => XS.lcmp X3.here hx rfl (hb hby own_d5_26) rfl k) ?_
  show own_Go _ _ _ _ T3 (mkF m 27 #[.val (.long q_1), .second, .val (.long q_2), .second, .val (.long (q_1 * q_2)), .second, .val (.long r2), .second, .val (.long r4), .second] [(.int (lcmpW (((r2 ||| r4).toUInt64 >>> ((31 : Int32) &&& 0x3f).toInt64.toUInt64).toInt64) (0 : Int64)))])
  by_cases hc5 : (((r2 ||| r4).toUInt64 >>> ((31 : Int32) &&& 0x3f).toInt64.toUInt64).toInt64) = (0 : Int64)
  · refine own_go (fun _ k => XS.ifYes X3.here hx rfl (pc0 := 27) (pc' := 71) rfl (hb hby own_d5_27) rfl (Jvm.Free.XT.ll_eq_t hc5) (by decide) (by decide) k) ?_
    show own_Go _ _ _ _ T3 (mkF m 71 #[.val (.long q_1), .second, .val (.long q_2), .second, .val (.long (q_1 * q_2)), .second, .val (.long r2), .second, .val (.long r4), .second] [])
    refine own_go (fun _ k => XS.lload X3.here hx rfl (hb hby own_d5_71) rfl k) ?_
    show own_Go _ _ _ _ T3 (mkF m 73 #[.val (.long q_1), .second, .val (.long q_2), .second, .val (.long (q_1 * q_2)), .second, .val (.long r2), .second, .val (.long r4), .second] [(.long (q_1 * q_2))])
    obtain ⟨fs, hr, hrun, hended, hW, hsame⟩ := X3.leave (v := some (.long (q_1 * q_2))) (fun h => by rw [Bd.returns] at h; cases h)
    refine ⟨_, _, retOut X3 hx Bd.returns rfl (Or.inr (Or.inl ⟨rfl, rfl, _, rfl⟩)) (hb hby own_d5_73) hr, hrun, hended, _, _, rfl, ?_, ⟨_, rfl⟩, hW, hsame.mono (by rw [y3]; decide) (by rw [z3]; decide)⟩
    show own_Q5 Z q_1 q_2 h0 n0 _ T3.heap _
    rw [e3]
    exact ⟨_, rfl, N3, (by subst hr_r2 hr_r4; first | rfl | simp only [if_pos hc5]), rfl⟩
  · refine own_go (fun _ k => XS.ifNo X3.here hx rfl (hb hby own_d5_27) rfl (Jvm.Free.XT.ll_eq_f hc5) k) ?_
    show own_Go _ _ _ _ T3 (mkF m 30 #[.val (.long q_1), .second, .val (.long q_2), .second, .val (.long (q_1 * q_2)), .second, .val (.long r2), .second, .val (.long r4), .second] [])
    refine own_go (fun _ k => XS.lloadN X3.here hx rfl (hb hby own_d5_30) rfl k) ?_
    show own_Go _ _ _ _ T3 (mkF m 31 #[.val (.long q_1), .second, .val (.long q_2), .second, .val (.long (q_1 * q_2)), .second, .val (.long r2), .second, .val (.long r4), .second] [(.long q_2)])
    refine own_go (fun _ k => XS.lconst X3.here hx rfl (hb hby own_d5_31) k) ?_
    show own_Go _ _ _ _ T3 (mkF m 32 #[.val (.long q_1), .second, .val (.long q_2), .second, .val (.long (q_1 * q_2)), .second, .val (.long r2), .second, .val (.long r4), .second] [(.long (0 : Int64)), (.long q_2)])
    refine own_go (fun _ k => XS.lcmp X3.here hx rfl (hb hby own_d5_32) rfl k) ?_
    show own_Go _ _ _ _ T3 (mkF m 33 #[.val (.long q_1), .second, .val (.long q_2), .second, .val (.long (q_1 * q_2)), .second, .val (.long r2), .second, .val (.long r4), .second] [(.int (lcmpW q_2 (0 : Int64)))])
    by_cases hc7 : q_2 = (0 : Int64)
    · refine own_go (fun _ k => XS.ifYes X3.here hx rfl (pc0 := 33) (pc' := 45) rfl (hb hby own_d5_33) rfl (Jvm.Free.XT.ll_eq_t hc7) (by decide) (by decide) k) ?_
      show own_Go _ _ _ _ T3 (mkF m 45 #[.val (.long q_1), .second, .val (.long q_2), .second, .val (.long (q_1 * q_2)), .second, .val (.long r2), .second, .val (.long r4), .second] [])
      refine own_go (fun _ k => XS.lloadN X3.here hx rfl (hb hby own_d5_45) rfl k) ?_
      show own_Go _ _ _ _ T3 (mkF m 46 #[.val (.long q_1), .second, .val (.long q_2), .second, .val (.long (q_1 * q_2)), .second, .val (.long r2), .second, .val (.long r4), .second] [(.long q_1)])
      refine own_go (fun _ k => X3.ldc2Long hx hown (mvT hZ (hw _ (List.mem_of_getElem? (i := 52) rfl))) (g := (mkF m 46 #[.val (.long q_1), .second, .val (.long q_2), .second, .val (.long (q_1 * q_2)), .second, .val (.long r2), .second, .val (.long r4), .second] [(.long q_1)])) rfl (hb hby own_d5_46) _ k) ?_
      show own_Go _ _ _ _ T3 (mkF m 49 #[.val (.long q_1), .second, .val (.long q_2), .second, .val (.long (q_1 * q_2)), .second, .val (.long r2), .second, .val (.long r4), .second] [(.long (-9223372036854775808 : Int64)), (.long q_1)])
      refine own_go (fun _ k => XS.lcmp X3.here hx rfl (hb hby own_d5_49) rfl k) ?_
      show own_Go _ _ _ _ T3 (mkF m 50 #[.val (.long q_1), .second, .val (.long q_2), .second, .val (.long (q_1 * q_2)), .second, .val (.long r2), .second, .val (.long r4), .second] [(.int (lcmpW q_1 (-9223372036854775808 : Int64)))])
      refine own_go (fun _ k => XS.ifYes X3.here hx rfl (pc0 := 50) (pc' := 71) rfl (hb hby own_d5_50) rfl (Jvm.Free.XT.ll_ne_t hx0) (by decide) (by decide) k) ?_
      show own_Go _ _ _ _ T3 (mkF m 71 #[.val (.long q_1), .second, .val (.long q_2), .second, .val (.long (q_1 * q_2)), .second, .val (.long r2), .second, .val (.long r4), .second] [])
      refine own_go (fun _ k => XS.lload X3.here hx rfl (hb hby own_d5_71) rfl k) ?_
      show own_Go _ _ _ _ T3 (mkF m 73 #[.val (.long q_1), .second, .val (.long q_2), .second, .val (.long (q_1 * q_2)), .second, .val (.long r2), .second, .val (.long r4), .second] [(.long (q_1 * q_2))])
      obtain ⟨fs, hr, hrun, hended, hW, hsame⟩ := X3.leave (v := some (.long (q_1 * q_2))) (fun h => by rw [Bd.returns] at h; cases h)
      refine ⟨_, _, retOut X3 hx Bd.returns rfl (Or.inr (Or.inl ⟨rfl, rfl, _, rfl⟩)) (hb hby own_d5_73) hr, hrun, hended, _, _, rfl, ?_, ⟨_, rfl⟩, hW, hsame.mono (by rw [y3]; decide) (by rw [z3]; decide)⟩
      show own_Q5 Z q_1 q_2 h0 n0 _ T3.heap _
      rw [e3]
      exact ⟨_, rfl, N3, (by subst hr_r2 hr_r4; first | rfl | simp only [if_neg hc5, if_pos hc7]), rfl⟩
    · refine own_go (fun _ k => XS.ifNo X3.here hx rfl (hb hby own_d5_33) rfl (Jvm.Free.XT.ll_eq_f hc7) k) ?_
      show own_Go _ _ _ _ T3 (mkF m 36 #[.val (.long q_1), .second, .val (.long q_2), .second, .val (.long (q_1 * q_2)), .second, .val (.long r2), .second, .val (.long r4), .second] [])
      refine own_go (fun _ k => XS.lload X3.here hx rfl (hb hby own_d5_36) rfl k) ?_
      show own_Go _ _ _ _ T3 (mkF m 38 #[.val (.long q_1), .second, .val (.long q_2), .second, .val (.long (q_1 * q_2)), .second, .val (.long r2), .second, .val (.long r4), .second] [(.long (q_1 * q_2))])
      refine own_go (fun _ k => XS.lloadN X3.here hx rfl (hb hby own_d5_38) rfl k) ?_
      show own_Go _ _ _ _ T3 (mkF m 39 #[.val (.long q_1), .second, .val (.long q_2), .second, .val (.long (q_1 * q_2)), .second, .val (.long r2), .second, .val (.long r4), .second] [(.long q_2), (.long (q_1 * q_2))])
      have nz10 : q_2 ≠ 0 := own_t5_0 q_1 q_2 r2 r4 hm hx0 hr_r2 hr_r4 hc5 hc7
      refine own_go (fun _ k => XS.ldiv X3.here hx rfl (hb hby own_d5_39) rfl nz10 k) ?_
      show own_Go _ _ _ _ T3 (mkF m 40 #[.val (.long q_1), .second, .val (.long q_2), .second, .val (.long (q_1 * q_2)), .second, .val (.long r2), .second, .val (.long r4), .second] [(.long ((q_1 * q_2) / q_2))])
      refine own_go (fun _ k => XS.lloadN X3.here hx rfl (hb hby own_d5_40) rfl k) ?_
      show own_Go _ _ _ _ T3 (mkF m 41 #[.val (.long q_1), .second, .val (.long q_2), .second, .val (.long (q_1 * q_2)), .second, .val (.long r2), .second, .val (.long r4), .second] [(.long q_1), (.long ((q_1 * q_2) / q_2))])
      refine own_go (fun _ k => XS.lcmp X3.here hx rfl (hb hby own_d5_41) rfl k) ?_
      show own_Go _ _ _ _ T3 (mkF m 42 #[.val (.long q_1), .second, .val (.long q_2), .second, .val (.long (q_1 * q_2)), .second, .val (.long r2), .second, .val (.long r4), .second] [(.int (lcmpW ((q_1 * q_2) / q_2) q_1))])
      have hc11 : ((q_1 * q_2) / q_2) = q_1 := own_t5_1 q_1 q_2 r2 r4 hm hx0 hr_r2 hr_r4 hc5 hc7
      refine own_go (fun _ k => XS.ifNo X3.here hx rfl (hb hby own_d5_42) rfl (Jvm.Free.XT.ll_ne_f hc11) k) ?_
      show own_Go _ _ _ _ T3 (mkF m 45 #[.val (.long q_1), .second, .val (.long q_2), .second, .val (.long (q_1 * q_2)), .second, .val (.long r2), .second, .val (.long r4), .second] [])
      refine own_go (fun _ k => XS.lloadN X3.here hx rfl (hb hby own_d5_45) rfl k) ?_
      show own_Go _ _ _ _ T3 (mkF m 46 #[.val (.long q_1), .second, .val (.long q_2), .second, .val (.long (q_1 * q_2)), .second, .val (.long r2), .second, .val (.long r4), .second] [(.long q_1)])
      refine own_go (fun _ k => X3.ldc2Long hx hown (mvT hZ (hw _ (List.mem_of_getElem? (i := 52) rfl))) (g := (mkF m 46 #[.val (.long q_1), .second, .val (.long q_2), .second, .val (.long (q_1 * q_2)), .second, .val (.long r2), .second, .val (.long r4), .second] [(.long q_1)])) rfl (hb hby own_d5_46) _ k) ?_
      show own_Go _ _ _ _ T3 (mkF m 49 #[.val (.long q_1), .second, .val (.long q_2), .second, .val (.long (q_1 * q_2)), .second, .val (.long r2), .second, .val (.long r4), .second] [(.long (-9223372036854775808 : Int64)), (.long q_1)])
      refine own_go (fun _ k => XS.lcmp X3.here hx rfl (hb hby own_d5_49) rfl k) ?_
      show own_Go _ _ _ _ T3 (mkF m 50 #[.val (.long q_1), .second, .val (.long q_2), .second, .val (.long (q_1 * q_2)), .second, .val (.long r2), .second, .val (.long r4), .second] [(.int (lcmpW q_1 (-9223372036854775808 : Int64)))])
      refine own_go (fun _ k => XS.ifYes X3.here hx rfl (pc0 := 50) (pc' := 71) rfl (hb hby own_d5_50) rfl (Jvm.Free.XT.ll_ne_t hx0) (by decide) (by decide) k) ?_
      show own_Go _ _ _ _ T3 (mkF m 71 #[.val (.long q_1), .second, .val (.long q_2), .second, .val (.long (q_1 * q_2)), .second, .val (.long r2), .second, .val (.long r4), .second] [])
      refine own_go (fun _ k => XS.lload X3.here hx rfl (hb hby own_d5_71) rfl k) ?_
      show own_Go _ _ _ _ T3 (mkF m 73 #[.val (.long q_1), .second, .val (.long q_2), .second, .val (.long (q_1 * q_2)), .second, .val (.long r2), .second, .val (.long r4), .second] [(.long (q_1 * q_2))])
      obtain ⟨fs, hr, hrun, hended, hW, hsame⟩ := X3.leave (v := some (.long (q_1 * q_2))) (fun h => by rw [Bd.returns] at h; cases h)
      refine ⟨_, _, retOut X3 hx Bd.returns rfl (Or.inr (Or.inl ⟨rfl, rfl, _, rfl⟩)) (hb hby own_d5_73) hr, hrun, hended, _, _, rfl, ?_, ⟨_, rfl⟩, hW, hsame.mono (by rw [y3]; decide) (by rw [z3]; decide)⟩
      show own_Q5 Z q_1 q_2 h0 n0 _ T3.heap _
      rw [e3]
      exact ⟨_, rfl, N3, (by subst hr_r2 hr_r4; first | rfl | simp only [if_neg hc5, if_neg hc7]), rfl⟩
theorem own_d4_0 : decode prog_38_method_2_code 0 = .ok (.aload_n 0, 1) := by decide +kernel
theorem own_d4_1 : decode prog_38_method_2_code 1 = .ok (.getfield 25, 3) := by decide +kernel
theorem own_d4_4 : decode prog_38_method_2_code 4 = .ok (.aload_n 0, 1) := by decide +kernel
theorem own_d4_5 : decode prog_38_method_2_code 5 = .ok (.getfield 29, 3) := by decide +kernel
theorem own_d4_8 : decode prog_38_method_2_code 8 = .ok (.invokestatic 32, 3) := by decide +kernel
theorem own_d4_11 : decode prog_38_method_2_code 11 = .ok (.lreturn, 1) := by decide +kernel
theorem own_ef_own_rm4 (m : MethodId) (x0 : Addr) : entryFrame m #[(.ref x0)] 1 = mkF m 0 #[.val (.ref x0)] [] := by first | (simp [entryFrame, mkF, argsToLocals, Value.category]; done) | rfl
def own_Q4 (Z : State) (a_1 : Addr) (w_quantity_a_1 : Int64) (w_unitPrice_a_1 : Int64) (h0 : Heap) (n0 : Nat) (v : Option Value) (h : Heap) (L : List Loc) : Prop := ∃ (r_ : Int64), v = some (.long r_) ∧ Fr n0 L ∧ r_ = (w_quantity_a_1 * w_unitPrice_a_1) ∧ h = h0
set_option maxRecDepth 65536 in
set_option maxHeartbeats 40000000 in
theorem own_rm4 (l : Launch) (Z : State) (a0 : Array Value) (hw : ∀ d ∈ tables_1, d.before a0 Z = true) (ws : List Jvm.Cond) (a_1 : Addr) (w_quantity_a_1 : Int64) (w_unitPrice_a_1 : Int64) (h0 : Heap) (n0 : Nat) (Z0 : n0 ≤ h0.size) (hm : -9223372036854775808 ≤ w_quantity_a_1.toInt * w_unitPrice_a_1.toInt ∧ w_quantity_a_1.toInt * w_unitPrice_a_1.toInt < 9223372036854775808) (hx0 : ¬ (w_quantity_a_1 = (-9223372036854775808 : Int64))) (pr_F_a_1_quantity : Fld Z h0 a_1 "com/example/orderly_storefront/orderlystorefront/order/OrderLine" "quantity" "J" (.long w_quantity_a_1)) (pr_F_a_1_unitPrice : Fld Z h0 a_1 "com/example/orderly_storefront/orderlystorefront/order/OrderLine" "unitPrice" "J" (.long w_unitPrice_a_1)) :
    MetFree l (⟨"com/example/orderly_storefront/orderlystorefront/order/OrderLine", "lineTotal", "()J"⟩ : MethodName) (head1 (Jvm.Cond.code (⟨"com/example/orderly_storefront/orderlystorefront/order/OrderLine", "lineTotal", "()J"⟩ : MethodName) prog_38_method_2_code 1 (some .long) :: ws) ({ frames := 2, cells := 0, slots := 0, locals := 34 } : Room)) (fun a U => a = #[(.ref a_1)] ∧ Z.Warmed39 U.vm ∧ U.heap = h0) (fun _ _ _ _ _ => True) (fun _ U o U' => ∃ v L, o = .returned v ∧ own_Q4 Z a_1 w_quantity_a_1 w_unitPrice_a_1 h0 n0 v U'.heap L ∧ FrameEnd U o U' L ({ frames := 2, cells := 0, slots := 0, locals := 34 } : Room).cells ({ frames := 2, cells := 0, slots := 0, locals := 34 } : Room).slots) := by
  refine MetFree.of_bodySF (plainFor_of_name own_pn1) hisR ?_
  intro p e s m args below meth c s₁ Bd hml0 hP hK
  obtain ⟨rfl, hZ, hh⟩ := hP
  have hx := Bd.exec
  have hby := Bd.bytes
  have hml : c.maxLocals = 1 := hml0
  have hown : s.vm.findClass "com/example/orderly_storefront/orderlystorefront/order/OrderLine" = some m.cls := findClass_of_methodNamed Bd.named
  have hnm := (name_of_methodNamed Bd.named Bd.method).1
  have X0 : Stand p l e ({ frames := 2, cells := 0, slots := 0, locals := 34 } : Room) s m #[(.ref a_1)] below meth c s₁ [] 0 0 := Stand.of_body Bd
  have e0 : s₁.heap = h0 := by rw [← hh, Bd.state]; rfl
  have N0 := Fr.nil n0
  have z0 : n0 ≤ h0.size := Z0
  have z1 := own_lt pr_F_a_1_quantity.lt
  have z2 := own_lt pr_F_a_1_unitPrice.lt
  show own_Go p.tables e below (fun t o => t.status = .running ∧ Ended t below o ∧ ∃ v L, o = .returned v ∧ own_Q4 Z a_1 w_quantity_a_1 w_unitPrice_a_1 h0 n0 v t.heap L ∧ FrameEnd s o t L ({ frames := 2, cells := 0, slots := 0, locals := 34 } : Room).cells ({ frames := 2, cells := 0, slots := 0, locals := 34 } : Room).slots) s₁ (entryFrame m #[(.ref a_1)] 1)
  rw [own_ef_own_rm4 m a_1]
  show own_Go _ _ _ _ s₁ (mkF m 0 #[.val (.ref a_1)] [])
  refine own_go (fun _ k => XS.aloadN X0.here hx rfl (hb hby own_d4_0) rfl rfl k) ?_
  show own_Go _ _ _ _ s₁ (mkF m 1 #[.val (.ref a_1)] [(.ref a_1)])
  obtain ⟨T3, X3, e3, st3⟩ := getF X0 hx hZ hown (host := "") (Or.inl (hw _ (List.mem_of_getElem? (i := 35) rfl))) Via.refl e0 pr_F_a_1_quantity (g := (mkF m 1 #[.val (.ref a_1)] [(.ref a_1)])) rfl rfl (hb hby own_d4_1)
  refine own_go (fun _ k => st3 _ k) ?_
  show own_Go _ _ _ _ T3 (mkF m 4 #[.val (.ref a_1)] [(.long w_quantity_a_1)])
  refine own_go (fun _ k => XS.aloadN X3.here hx rfl (hb hby own_d4_4) rfl rfl k) ?_
  show own_Go _ _ _ _ T3 (mkF m 5 #[.val (.ref a_1)] [(.ref a_1), (.long w_quantity_a_1)])
  obtain ⟨T4, X4, e4, st4⟩ := getF X3 hx hZ hown (host := "") (Or.inl (hw _ (List.mem_of_getElem? (i := 37) rfl))) Via.refl e3 pr_F_a_1_unitPrice (g := (mkF m 5 #[.val (.ref a_1)] [(.ref a_1), (.long w_quantity_a_1)])) rfl rfl (hb hby own_d4_5)
  refine own_go (fun _ k => st4 _ k) ?_
  show own_Go _ _ _ _ T4 (mkF m 8 #[.val (.ref a_1)] [(.long w_unitPrice_a_1), (.long w_quantity_a_1)])
  obtain ⟨_, _, ⟨T5, L5, k5, n5⟩, -, X5, ⟨Lc5, hQ5, l5, y5, z5⟩, st5⟩ := Jvm.LawKit.callS X4 hx (y := (⟨"java/lang/Math", "multiplyExact", "(JJ)J"⟩ : MethodName)) hown (mvT hZ (hw _ (List.mem_of_getElem? (i := 45) rfl))) (mvT hZ (hw _ (List.mem_of_getElem? (i := 46) rfl))) (mvT hZ (hw _ (List.mem_of_getElem? (i := 47) rfl))) (mvT hZ (hw _ (List.mem_of_getElem? (i := 48) rfl))) (by decide) (backOf (W := 0) (own_rm5 l Z a0 hw [] w_quantity_a_1 w_unitPrice_a_1  h0 n0 (by omega) hm hx0) hZ (hw _ (List.mem_of_getElem? (i := 48) rfl)) (hw _ (List.mem_of_getElem? (i := 47) rfl)) (by decide) (by decide)) (g := (mkF m 8 #[.val (.ref a_1)] [(.long w_unitPrice_a_1), (.long w_quantity_a_1)])) rfl (by rw [hml]; rfl) (argsL := [(.long w_quantity_a_1), (.long w_unitPrice_a_1)]) (rest := []) (lenOf own_pd2 rfl) rfl (by show 2 * 0 + _ ≤ _; exact Nat.le_of_eq rfl) (hb hby own_d4_8) (fun _ _ => ⟨rfl, e4, (by decide : 0 + 0 ≤ _), (by decide : 0 + 0 ≤ _)⟩)
  dsimp only [Pt.U, Pt.locs, Pt.cells, Pt.slots] at X5 l5 y5 z5 st5 hQ5
  have y5 : k5 = 0 := y5
  have z5 : n5 = 0 := z5
  obtain ⟨r6, rfl, N5q, hr_r6, e5⟩ := hQ5
  have N5 : Fr n0 L5 := by rw [l5]; exact Fr.app N0 N5q
  refine own_go (fun _ k => st5 _ k) ?_
  show own_Go _ _ _ _ T5 (mkF m 11 #[.val (.ref a_1)] [(.long r6)])
  obtain ⟨fs, hr, hrun, hended, hW, hsame⟩ := X5.leave (v := some (.long r6)) (fun h => by rw [Bd.returns] at h; cases h)
  refine ⟨_, _, retOut X5 hx Bd.returns rfl (Or.inr (Or.inl ⟨rfl, rfl, _, rfl⟩)) (hb hby own_d4_11) hr, hrun, hended, _, _, rfl, ?_, ⟨_, rfl⟩, hW, hsame.mono (by rw [y5]; decide) (by rw [z5]; decide)⟩
  show own_Q4 Z a_1 w_quantity_a_1 w_unitPrice_a_1 h0 n0 _ T5.heap _
  rw [e5]
  exact ⟨_, rfl, N5, (by subst hr_r6; rfl), rfl⟩
theorem own_ef_own_rm0 (m : MethodId) (x0 : Int32) (x1 : Int32) (x2 : Int32) (x3 : Int64) : entryFrame m #[(.int x0), (.int x1), (.int x2), (.long x3)] maxLocals = mkF m 0 #[.val (.int x0), .val (.int x1), .val (.int x2), .val (.long x3), .second, .unset, .unset, .unset, .unset, .unset, .unset, .unset, .unset, .unset, .unset, .unset, .unset, .unset] [] := by first | (simp [entryFrame, mkF, argsToLocals, Value.category, maxLocals]; done) | rfl
set_option maxRecDepth 65536 in
set_option maxHeartbeats 4000000 in
theorem own_t0_0 (p_1 : Int32) (p_2 : Int32) (v41 : Int64) (v43 : Int64) (hdv41 : v41 = (p_1.toInt64)) (hdv43 : v43 = (p_2.toInt64)) : -9223372036854775808 ≤ v41.toInt * v43.toInt ∧ v41.toInt * v43.toInt < 9223372036854775808 := by
  subst_vars
  have h := own_mulb (own_i2lb p_1) (own_i2lb p_2)
  omega
set_option maxRecDepth 65536 in
set_option maxHeartbeats 4000000 in
theorem own_t0_1 (p_1 : Int32) (v41 : Int64) (hdv41 : v41 = (p_1.toInt64)) : ¬ (v41 = (-9223372036854775808 : Int64)) := by
  subst_vars
  exact own_nmin (by have h := own_i2lb p_1; omega)
set_option maxRecDepth 65536 in
set_option maxHeartbeats 4000000 in
theorem own_t0_2 (p_1 : Int32) (p_2 : Int32) (v41 : Int64) (v43 : Int64) (r115 : Int64) (hdv41 : v41 = (p_1.toInt64)) (hdv43 : v43 = (p_2.toInt64)) (hr_r115 : r115 = (v41 * v43)) : r115 = ((p_1.toInt64) * (p_2.toInt64)) := by
  subst_vars; rfl
set_option maxRecDepth 65536 in
set_option maxHeartbeats 4000000 in
theorem own_t0_3 (p_3 : Int32) (q_4 : Int64) (v45 : Int64) (v46 : Int64) (v110 : Int64) (hdv45 : ((p_3 &&& (255 : Int32)).toInt64) = v45) (hdv46 : (q_4 >>> ((9 : Int32) &&& 0x3f).toInt64) = v46) (hdv110 : (v45 * v46) = v110) : -9223372036854775808 ≤ v45.toInt * v46.toInt ∧ v45.toInt * v46.toInt < 9223372036854775808 := by
  subst_vars
  have a := own_m255 p_3
  have b := own_shr9 q_4
  have h := own_mulb (A := 255) (B := 18014398509481984) ⟨by omega, a.2⟩ ⟨b.1, Int.le_of_lt b.2⟩
  omega
set_option maxRecDepth 65536 in
set_option maxHeartbeats 4000000 in
theorem own_t0_4 (p_3 : Int32) (q_4 : Int64) (v45 : Int64) (v46 : Int64) (v110 : Int64) (hdv45 : ((p_3 &&& (255 : Int32)).toInt64) = v45) (hdv46 : (q_4 >>> ((9 : Int32) &&& 0x3f).toInt64) = v46) (hdv110 : (v45 * v46) = v110) : ¬ (v45 = (-9223372036854775808 : Int64)) := by
  subst_vars
  exact own_nmin (by have h := own_m255 p_3; omega)
set_option maxRecDepth 65536 in
set_option maxHeartbeats 4000000 in
theorem own_t0_5 (p_3 : Int32) (q_4 : Int64) (v45 : Int64) (v46 : Int64) (v110 : Int64) (r121 : Int64) (hdv45 : ((p_3 &&& (255 : Int32)).toInt64) = v45) (hdv46 : (q_4 >>> ((9 : Int32) &&& 0x3f).toInt64) = v46) (hdv110 : (v45 * v46) = v110) (hr_r121 : r121 = (v45 * v46)) : r121 = v110 := by
  subst_vars; rfl
set_option maxRecDepth 65536 in
set_option maxHeartbeats 4000000 in
theorem own_t0_6 (p_3 : Int32) (q_4 : Int64) (v45 : Int64) (v46 : Int64) (v110 : Int64) (r121 : Int64) (hdv45 : ((p_3 &&& (255 : Int32)).toInt64) = v45) (hdv46 : (q_4 >>> ((9 : Int32) &&& 0x3f).toInt64) = v46) (hdv110 : (v45 * v46) = v110) (hr_r121 : r121 = (v45 * v46)) (hc122 : r121 = v110) : -9223372036854775808 ≤ v46.toInt * v45.toInt ∧ v46.toInt * v45.toInt < 9223372036854775808 := by
  subst_vars
  have a := own_m255 p_3
  have b := own_shr9 q_4
  have h := own_mulb (B := 255) (A := 18014398509481984) ⟨b.1, Int.le_of_lt b.2⟩ ⟨by omega, a.2⟩
  omega
set_option maxRecDepth 65536 in
set_option maxHeartbeats 4000000 in
theorem own_t0_7 (p_3 : Int32) (q_4 : Int64) (v45 : Int64) (v46 : Int64) (v110 : Int64) (r121 : Int64) (hdv45 : ((p_3 &&& (255 : Int32)).toInt64) = v45) (hdv46 : (q_4 >>> ((9 : Int32) &&& 0x3f).toInt64) = v46) (hdv110 : (v45 * v46) = v110) (hr_r121 : r121 = (v45 * v46)) (hc122 : r121 = v110) : ¬ (v46 = (-9223372036854775808 : Int64)) := by
  subst_vars
  exact own_nmin (by have h := own_shr9 q_4; omega)
set_option maxRecDepth 65536 in
set_option maxHeartbeats 4000000 in
theorem own_t0_8 (p_3 : Int32) (q_4 : Int64) (v45 : Int64) (v46 : Int64) (v110 : Int64) (r121 : Int64) (r124 : Int64) (hdv45 : ((p_3 &&& (255 : Int32)).toInt64) = v45) (hdv46 : (q_4 >>> ((9 : Int32) &&& 0x3f).toInt64) = v46) (hdv110 : (v45 * v46) = v110) (hr_r121 : r121 = (v45 * v46)) (hc122 : r121 = v110) (hr_r124 : r124 = (v46 * v45)) : r124 = v110 := by
  subst_vars; exact Int64.mul_comm _ _
def own_Q0 (Z : State) (p_1 : Int32) (p_2 : Int32) (p_3 : Int32) (q_4 : Int64) (h0 : Heap) (n0 : Nat) (v : Option Value) (h : Heap) (L : List Loc) : Prop := v = some (.int (1 : Int32)) ∧ Fr n0 L
set_option maxRecDepth 65536 in
set_option maxHeartbeats 40000000 in
theorem own_rm0 (l : Launch) (Z : State) (a0 : Array Value) (hw : ∀ d ∈ tables_1, d.before a0 Z = true) (ws : List Jvm.Cond) (p_1 : Int32) (p_2 : Int32) (p_3 : Int32) (q_4 : Int64) (h0 : Heap) (n0 : Nat) (Z0 : n0 ≤ h0.size) :
    MetFree l x (head1 (Jvm.Cond.code x code maxLocals ret :: ws) room_1) (fun a U => a = #[(.int p_1), (.int p_2), (.int p_3), (.long q_4)] ∧ Z.Warmed39 U.vm ∧ U.heap = h0) (fun _ _ _ _ _ => True) (fun _ U o U' => ∃ v L, o = .returned v ∧ own_Q0 Z p_1 p_2 p_3 q_4 h0 n0 v U'.heap L ∧ ReturnedEndW U o U' L 13 61) := by
  refine MetFree.of_bodySF (plainFor_of_name own_pn2) hisR ?_
  intro p e s m args below meth c s₁ Bd hml0 hP hK
  obtain ⟨rfl, hZ, hh⟩ := hP
  have hx := Bd.exec
  have hby := Bd.bytes
  have hml : c.maxLocals = 18 := hml0
  have hown : s.vm.findClass "com/example/orderly_storefront/orderlystorefront/order/OrderLineLineTotalPinLaw" = some m.cls := findClass_of_methodNamed Bd.named
  have hnm := (name_of_methodNamed Bd.named Bd.method).1
  have X0 : Stand p l e room_1 s m #[(.int p_1), (.int p_2), (.int p_3), (.long q_4)] below meth c s₁ [] 0 0 := Stand.of_body Bd
  have e0 : s₁.heap = h0 := by rw [← hh, Bd.state]; rfl
  have N0 := Fr.nil n0
  have X0 : Stand p l e room_1 (s.setVm s.vm) m #[(.int p_1), (.int p_2), (.int p_3), (.long q_4)] below meth c s₁ [] 0 0 := X0
  have hZ : Z.Warmed39 (s.setVm s.vm).vm := hZ
  have hown : (s.setVm s.vm).vm.findClass "com/example/orderly_storefront/orderlystorefront/order/OrderLineLineTotalPinLaw" = some m.cls := hown
  have hS0 : s.Since s.vm 0 := (State.WarmedH.refl s).since 0
  have z0 : n0 ≤ h0.size := Z0
  show own_Go p.tables e below (fun t o => t.status = .running ∧ Ended t below o ∧ ∃ v L, o = .returned v ∧ own_Q0 Z p_1 p_2 p_3 q_4 h0 n0 v t.heap L ∧ ReturnedEndW s o t L 13 61) s₁ (entryFrame m #[(.int p_1), (.int p_2), (.int p_3), (.long q_4)] maxLocals)
  rw [own_ef_own_rm0 m p_1 p_2 p_3 q_4]
  show own_Go _ _ _ _ s₁ (mkF m 0 #[.val (.int p_1), .val (.int p_2), .val (.int p_3), .val (.long q_4), .second, .unset, .unset, .unset, .unset, .unset, .unset, .unset, .unset, .unset, .unset, .unset, .unset, .unset] [])
  refine own_go (fun _ k => XS.iloadN X0.here hx rfl (hb hby at_0) rfl k) ?_
  show own_Go _ _ _ _ s₁ (mkF m 1 #[.val (.int p_1), .val (.int p_2), .val (.int p_3), .val (.long q_4), .second, .unset, .unset, .unset, .unset, .unset, .unset, .unset, .unset, .unset, .unset, .unset, .unset, .unset] [(.int p_1)])
  refine own_go (fun _ k => XS.i2l X0.here hx rfl (hb hby at_1) rfl k) ?_
  show own_Go _ _ _ _ s₁ (mkF m 2 #[.val (.int p_1), .val (.int p_2), .val (.int p_3), .val (.long q_4), .second, .unset, .unset, .unset, .unset, .unset, .unset, .unset, .unset, .unset, .unset, .unset, .unset, .unset] [(.long (p_1.toInt64))])
  refine own_go (fun _ k => XS.lstore X0.here hx rfl (hb hby at_2) rfl (l' := #[.val (.int p_1), .val (.int p_2), .val (.int p_3), .val (.long q_4), .second, .val (.long (p_1.toInt64)), .second, .unset, .unset, .unset, .unset, .unset, .unset, .unset, .unset, .unset, .unset, .unset]) rfl k) ?_
  show own_Go _ _ _ _ s₁ (mkF m 4 #[.val (.int p_1), .val (.int p_2), .val (.int p_3), .val (.long q_4), .second, .val (.long (p_1.toInt64)), .second, .unset, .unset, .unset, .unset, .unset, .unset, .unset, .unset, .unset, .unset, .unset] [])
  refine own_go (fun _ k => XS.iloadN X0.here hx rfl (hb hby at_4) rfl k) ?_
  show own_Go _ _ _ _ s₁ (mkF m 5 #[.val (.int p_1), .val (.int p_2), .val (.int p_3), .val (.long q_4), .second, .val (.long (p_1.toInt64)), .second, .unset, .unset, .unset, .unset, .unset, .unset, .unset, .unset, .unset, .unset, .unset] [(.int p_2)])
  refine own_go (fun _ k => XS.i2l X0.here hx rfl (hb hby at_5) rfl k) ?_
  show own_Go _ _ _ _ s₁ (mkF m 6 #[.val (.int p_1), .val (.int p_2), .val (.int p_3), .val (.long q_4), .second, .val (.long (p_1.toInt64)), .second, .unset, .unset, .unset, .unset, .unset, .unset, .unset, .unset, .unset, .unset, .unset] [(.long (p_2.toInt64))])
  refine own_go (fun _ k => XS.lstore X0.here hx rfl (hb hby at_6) rfl (l' := #[.val (.int p_1), .val (.int p_2), .val (.int p_3), .val (.long q_4), .second, .val (.long (p_1.toInt64)), .second, .val (.long (p_2.toInt64)), .second, .unset, .unset, .unset, .unset, .unset, .unset, .unset, .unset, .unset]) rfl k) ?_
  show own_Go _ _ _ _ s₁ (mkF m 8 #[.val (.int p_1), .val (.int p_2), .val (.int p_3), .val (.long q_4), .second, .val (.long (p_1.toInt64)), .second, .val (.long (p_2.toInt64)), .second, .unset, .unset, .unset, .unset, .unset, .unset, .unset, .unset, .unset] [])
  obtain ⟨T1, h1, X1, e1, E1, A1, D1, Y1, st1⟩ := newO X0 hx hZ hown (hw _ (List.mem_of_getElem? (i := 0) rfl)) (hw _ (List.mem_of_getElem? (i := 1) rfl)) (hw _ (List.mem_of_getElem? (i := 2) rfl)) e0 (g := (mkF m 8 #[.val (.int p_1), .val (.int p_2), .val (.int p_3), .val (.long q_4), .second, .val (.long (p_1.toInt64)), .second, .val (.long (p_2.toInt64)), .second, .unset, .unset, .unset, .unset, .unset, .unset, .unset, .unset, .unset] [])) rfl (hb hby at_8) (by decide) (by decide)
  obtain ⟨b1, g1⟩ : ∃ z, z = h0.size := ⟨_, rfl⟩
  rw [← g1] at A1 D1 Y1 st1
  have z2 := E1.1
  have lt_b1 := own_lt A1.lt
  have F_id_b1 : Fld Z h1 b1 "com/example/orderly_storefront/orderlystorefront/order/OrderLine" "id" "Ljava/lang/String;" .null := D1 (Or.inr (hw _ (List.mem_of_getElem? (i := 26) rfl))) (ty := (.object "java/lang/String")) (by decide)
  have F_variantId_b1 : Fld Z h1 b1 "com/example/orderly_storefront/orderlystorefront/order/OrderLine" "variantId" "Ljava/lang/String;" .null := D1 (Or.inr (hw _ (List.mem_of_getElem? (i := 28) rfl))) (ty := (.object "java/lang/String")) (by decide)
  have F_sku_b1 : Fld Z h1 b1 "com/example/orderly_storefront/orderlystorefront/order/OrderLine" "sku" "Ljava/lang/String;" .null := D1 (Or.inr (hw _ (List.mem_of_getElem? (i := 30) rfl))) (ty := (.object "java/lang/String")) (by decide)
  have F_productTitle_b1 : Fld Z h1 b1 "com/example/orderly_storefront/orderlystorefront/order/OrderLine" "productTitle" "Ljava/lang/String;" .null := D1 (Or.inr (hw _ (List.mem_of_getElem? (i := 32) rfl))) (ty := (.object "java/lang/String")) (by decide)
  have F_variantTitle_b1 : Fld Z h1 b1 "com/example/orderly_storefront/orderlystorefront/order/OrderLine" "variantTitle" "Ljava/lang/String;" .null := D1 (Or.inr (hw _ (List.mem_of_getElem? (i := 34) rfl))) (ty := (.object "java/lang/String")) (by decide)
  have F_quantity_b1 : Fld Z h1 b1 "com/example/orderly_storefront/orderlystorefront/order/OrderLine" "quantity" "J" (.long (0 : Int64)) := D1 (Or.inr (hw _ (List.mem_of_getElem? (i := 36) rfl))) (ty := .long) (by decide)
  have F_unitPrice_b1 : Fld Z h1 b1 "com/example/orderly_storefront/orderlystorefront/order/OrderLine" "unitPrice" "J" (.long (0 : Int64)) := D1 (Or.inr (hw _ (List.mem_of_getElem? (i := 38) rfl))) (ty := .long) (by decide)
  refine own_go (fun _ k => st1 _ k) ?_
  show own_Go _ _ _ _ T1 (mkF m 11 #[.val (.int p_1), .val (.int p_2), .val (.int p_3), .val (.long q_4), .second, .val (.long (p_1.toInt64)), .second, .val (.long (p_2.toInt64)), .second, .unset, .unset, .unset, .unset, .unset, .unset, .unset, .unset, .unset] [(.ref b1)])
  refine own_go (fun _ k => XS.dup X1.here hx rfl (hb hby at_11) rfl rfl k) ?_
  show own_Go _ _ _ _ T1 (mkF m 12 #[.val (.int p_1), .val (.int p_2), .val (.int p_3), .val (.long q_4), .second, .val (.long (p_1.toInt64)), .second, .val (.long (p_2.toInt64)), .second, .unset, .unset, .unset, .unset, .unset, .unset, .unset, .unset, .unset] [(.ref b1), (.ref b1)])
  obtain ⟨b3, T3, h3, k3, X3, e3, E3, hS3, g3, hZ, hown, Li3, Wn3, st3⟩ := own_ldcSL X1 hx hZ hown (hw _ (List.mem_of_getElem? (i := 3) rfl)) (own_wS hw) e1 hS0 (by omega) (g := (mkF m 12 #[.val (.int p_1), .val (.int p_2), .val (.int p_3), .val (.long q_4), .second, .val (.long (p_1.toInt64)), .second, .val (.long (p_2.toInt64)), .second, .unset, .unset, .unset, .unset, .unset, .unset, .unset, .unset, .unset] [(.ref b1), (.ref b1)])) rfl (hb hby at_12) (n := 4) (by decide +kernel) (by decide) (by decide) (by decide)
  have z4 := E3.1
  refine own_go (fun _ k => st3 _ k) ?_
  show own_Go _ _ _ _ T3 (mkF m 14 #[.val (.int p_1), .val (.int p_2), .val (.int p_3), .val (.long q_4), .second, .val (.long (p_1.toInt64)), .second, .val (.long (p_2.toInt64)), .second, .unset, .unset, .unset, .unset, .unset, .unset, .unset, .unset, .unset] [(.ref b3), (.ref b1), (.ref b1)])
  obtain ⟨b5, T5, h5, k5, X5, e5, E5, hS5, g5, hZ, hown, Li5, Wn5, st5⟩ := own_ldcSL X3 hx hZ hown (hw _ (List.mem_of_getElem? (i := 11) rfl)) (own_wS hw) e3 hS3 (by omega) (g := (mkF m 14 #[.val (.int p_1), .val (.int p_2), .val (.int p_3), .val (.long q_4), .second, .val (.long (p_1.toInt64)), .second, .val (.long (p_2.toInt64)), .second, .unset, .unset, .unset, .unset, .unset, .unset, .unset, .unset, .unset] [(.ref b3), (.ref b1), (.ref b1)])) rfl (hb hby at_14) (n := 4) (by decide +kernel) (by decide) (by decide) (by decide)
  have z6 := E5.1
  have Li7 := Li3.stays Wn5
  refine own_go (fun _ k => st5 _ k) ?_
  show own_Go _ _ _ _ T5 (mkF m 16 #[.val (.int p_1), .val (.int p_2), .val (.int p_3), .val (.long q_4), .second, .val (.long (p_1.toInt64)), .second, .val (.long (p_2.toInt64)), .second, .unset, .unset, .unset, .unset, .unset, .unset, .unset, .unset, .unset] [(.ref b5), (.ref b3), (.ref b1), (.ref b1)])
  refine own_go (fun _ k => XS.aconstNull X5.here hx rfl (hb hby at_16) k) ?_
  show own_Go _ _ _ _ T5 (mkF m 17 #[.val (.int p_1), .val (.int p_2), .val (.int p_3), .val (.long q_4), .second, .val (.long (p_1.toInt64)), .second, .val (.long (p_2.toInt64)), .second, .unset, .unset, .unset, .unset, .unset, .unset, .unset, .unset, .unset] [.null, (.ref b5), (.ref b3), (.ref b1), (.ref b1)])
  obtain ⟨b8, T8, h8, k8, X8, e8, E8, hS8, g8, hZ, hown, Li8, Wn8, st8⟩ := own_ldcSL X5 hx hZ hown (hw _ (List.mem_of_getElem? (i := 12) rfl)) (own_wS hw) e5 hS5 (by omega) (g := (mkF m 17 #[.val (.int p_1), .val (.int p_2), .val (.int p_3), .val (.long q_4), .second, .val (.long (p_1.toInt64)), .second, .val (.long (p_2.toInt64)), .second, .unset, .unset, .unset, .unset, .unset, .unset, .unset, .unset, .unset] [.null, (.ref b5), (.ref b3), (.ref b1), (.ref b1)])) rfl (hb hby at_17) (n := 4) (by decide +kernel) (by decide) (by decide) (by decide)
  have z9 := E8.1
  have Li10 := Li7.stays Wn8
  have Li11 := Li5.stays Wn8
  refine own_go (fun _ k => st8 _ k) ?_
  show own_Go _ _ _ _ T8 (mkF m 19 #[.val (.int p_1), .val (.int p_2), .val (.int p_3), .val (.long q_4), .second, .val (.long (p_1.toInt64)), .second, .val (.long (p_2.toInt64)), .second, .unset, .unset, .unset, .unset, .unset, .unset, .unset, .unset, .unset] [(.ref b8), .null, (.ref b5), (.ref b3), (.ref b1), (.ref b1)])
  obtain ⟨b12, T12, h12, k12, X12, e12, E12, hS12, g12, hZ, hown, Li12, Wn12, st12⟩ := own_ldcSL X8 hx hZ hown (hw _ (List.mem_of_getElem? (i := 13) rfl)) (own_wS hw) e8 hS8 (by omega) (g := (mkF m 19 #[.val (.int p_1), .val (.int p_2), .val (.int p_3), .val (.long q_4), .second, .val (.long (p_1.toInt64)), .second, .val (.long (p_2.toInt64)), .second, .unset, .unset, .unset, .unset, .unset, .unset, .unset, .unset, .unset] [(.ref b8), .null, (.ref b5), (.ref b3), (.ref b1), (.ref b1)])) rfl (hb hby at_19) (n := 4) (by decide +kernel) (by decide) (by decide) (by decide)
  have z13 := E12.1
  have Li14 := Li10.stays Wn12
  have Li15 := Li11.stays Wn12
  have Li16 := Li8.stays Wn12
  refine own_go (fun _ k => st12 _ k) ?_
  show own_Go _ _ _ _ T12 (mkF m 21 #[.val (.int p_1), .val (.int p_2), .val (.int p_3), .val (.long q_4), .second, .val (.long (p_1.toInt64)), .second, .val (.long (p_2.toInt64)), .second, .unset, .unset, .unset, .unset, .unset, .unset, .unset, .unset, .unset] [(.ref b12), (.ref b8), .null, (.ref b5), (.ref b3), (.ref b1), (.ref b1)])
  refine own_go (fun _ k => XS.lload X12.here hx rfl (hb hby at_21) rfl k) ?_
  show own_Go _ _ _ _ T12 (mkF m 23 #[.val (.int p_1), .val (.int p_2), .val (.int p_3), .val (.long q_4), .second, .val (.long (p_1.toInt64)), .second, .val (.long (p_2.toInt64)), .second, .unset, .unset, .unset, .unset, .unset, .unset, .unset, .unset, .unset] [(.long (p_1.toInt64)), (.ref b12), (.ref b8), .null, (.ref b5), (.ref b3), (.ref b1), (.ref b1)])
  refine own_go (fun _ k => XS.lload X12.here hx rfl (hb hby at_23) rfl k) ?_
  show own_Go _ _ _ _ T12 (mkF m 25 #[.val (.int p_1), .val (.int p_2), .val (.int p_3), .val (.long q_4), .second, .val (.long (p_1.toInt64)), .second, .val (.long (p_2.toInt64)), .second, .unset, .unset, .unset, .unset, .unset, .unset, .unset, .unset, .unset] [(.long (p_2.toInt64)), (.long (p_1.toInt64)), (.ref b12), (.ref b8), .null, (.ref b5), (.ref b3), (.ref b1), (.ref b1)])
  have f17 : Exa Z h12 b1 "com/example/orderly_storefront/orderlystorefront/order/OrderLine" := ((((A1.ext E3).ext E5).ext E8).ext E12)
  have f18 : Fld Z h12 b1 "com/example/orderly_storefront/orderlystorefront/order/OrderLine" "id" "Ljava/lang/String;" .null := ((((F_id_b1.ext E3).ext E5).ext E8).ext E12)
  have f19 : Fld Z h12 b1 "com/example/orderly_storefront/orderlystorefront/order/OrderLine" "variantId" "Ljava/lang/String;" .null := ((((F_variantId_b1.ext E3).ext E5).ext E8).ext E12)
  have f20 : Fld Z h12 b1 "com/example/orderly_storefront/orderlystorefront/order/OrderLine" "sku" "Ljava/lang/String;" .null := ((((F_sku_b1.ext E3).ext E5).ext E8).ext E12)
  have f21 : Fld Z h12 b1 "com/example/orderly_storefront/orderlystorefront/order/OrderLine" "productTitle" "Ljava/lang/String;" .null := ((((F_productTitle_b1.ext E3).ext E5).ext E8).ext E12)
  have f22 : Fld Z h12 b1 "com/example/orderly_storefront/orderlystorefront/order/OrderLine" "variantTitle" "Ljava/lang/String;" .null := ((((F_variantTitle_b1.ext E3).ext E5).ext E8).ext E12)
  have f23 : Fld Z h12 b1 "com/example/orderly_storefront/orderlystorefront/order/OrderLine" "quantity" "J" (.long (0 : Int64)) := ((((F_quantity_b1.ext E3).ext E5).ext E8).ext E12)
  have f24 : Fld Z h12 b1 "com/example/orderly_storefront/orderlystorefront/order/OrderLine" "unitPrice" "J" (.long (0 : Int64)) := ((((F_unitPrice_b1.ext E3).ext E5).ext E8).ext E12)
  obtain ⟨_, _, ⟨T25, L25, k25, n25⟩, -, X25, ⟨Lc25, hQ25, l25, y25, z25⟩, st25⟩ := X12.specialBack hx (y := (⟨"com/example/orderly_storefront/orderlystorefront/order/OrderLine", "<init>", "(Ljava/lang/String;Ljava/lang/String;Ljava/lang/String;Ljava/lang/String;Ljava/lang/String;JJ)V"⟩ : MethodName)) rfl hown (mvT hZ (hw _ (List.mem_of_getElem? (i := 14) rfl))) (mvT hZ (hw _ (List.mem_of_getElem? (i := 15) rfl))) (mvT hZ (hw _ (List.mem_of_getElem? (i := 16) rfl))) (by decide) (backOf (W := 1) (own_rm1n l Z a0 hw [] b1 b3 b5 b8 b12 (p_1.toInt64) (p_2.toInt64) .null .null .null .null .null (0 : Int64) (0 : Int64) h12 n0 (by omega) f17 f18 f19 f20 f21 f22 f23 f24 (by omega)) hZ (hw _ (List.mem_of_getElem? (i := 16) rfl)) (hw _ (List.mem_of_getElem? (i := 2) rfl)) (by decide) (by decide)) (g := (mkF m 25 #[.val (.int p_1), .val (.int p_2), .val (.int p_3), .val (.long q_4), .second, .val (.long (p_1.toInt64)), .second, .val (.long (p_2.toInt64)), .second, .unset, .unset, .unset, .unset, .unset, .unset, .unset, .unset, .unset] [(.long (p_2.toInt64)), (.long (p_1.toInt64)), (.ref b12), (.ref b8), .null, (.ref b5), (.ref b3), (.ref b1), (.ref b1)])) rfl (by rw [hml]; rfl) (Steps.refl _) (a := b1) (argsL := [(.ref b3), (.ref b5), .null, (.ref b8), (.ref b12), (.long (p_1.toInt64)), (.long (p_2.toInt64))]) (rest := [(.ref b1)]) (lenOf own_pd3 rfl) rfl (by show 2 * 0 + _ ≤ _; exact Nat.le_of_eq rfl) (hb hby at_25) (fun _ _ => ⟨rfl, e12, (by decide : 9 + 0 ≤ _), (by decide : 39 + 0 ≤ _)⟩)
  dsimp only [Pt.U, Pt.locs, Pt.cells, Pt.slots] at X25 l25 y25 z25 st25 hQ25
  have y25 : k25 = 9 := y25
  have z25 : n25 = 39 := z25
  obtain ⟨rfl, N25q, K25q, f26, f27, f28, f29, f30, f31, f32, f33⟩ := hQ25
  have N25 : Fr n0 L25 := by rw [l25]; exact Fr.app N0 N25q
  have z34 := K25q.1
  have z35 := own_lt f26.lt
  have z36 := own_lt f27.lt
  have z37 := own_lt f28.lt
  have z38 := own_lt f29.lt
  have z39 := own_lt f30.lt
  have z40 := own_lt f31.lt
  obtain ⟨v41, hdv41⟩ : ∃ z : Int64, z = (p_1.toInt64) := ⟨_, rfl⟩
  rw [← hdv41] at f32
  have z42 := own_lt f32.lt
  obtain ⟨v43, hdv43⟩ : ∃ z : Int64, z = (p_2.toInt64) := ⟨_, rfl⟩
  rw [← hdv43] at f33
  have z44 := own_lt f33.lt
  refine own_go (fun _ k => st25.trans k) ?_
  show own_Go _ _ _ _ T25 (mkF m 28 #[.val (.int p_1), .val (.int p_2), .val (.int p_3), .val (.long q_4), .second, .val (.long (p_1.toInt64)), .second, .val (.long (p_2.toInt64)), .second, .unset, .unset, .unset, .unset, .unset, .unset, .unset, .unset, .unset] [(.ref b1)])
  refine own_go (fun _ k => XS.astore X25.here hx rfl (hb hby at_28) rfl rfl (l' := #[.val (.int p_1), .val (.int p_2), .val (.int p_3), .val (.long q_4), .second, .val (.long (p_1.toInt64)), .second, .val (.long (p_2.toInt64)), .second, .val (.ref b1), .unset, .unset, .unset, .unset, .unset, .unset, .unset, .unset]) rfl k) ?_
  show own_Go _ _ _ _ T25 (mkF m 30 #[.val (.int p_1), .val (.int p_2), .val (.int p_3), .val (.long q_4), .second, .val (.long (p_1.toInt64)), .second, .val (.long (p_2.toInt64)), .second, .val (.ref b1), .unset, .unset, .unset, .unset, .unset, .unset, .unset, .unset] [])
  refine own_go (fun _ k => XS.iloadN X25.here hx rfl (hb hby at_30) rfl k) ?_
  show own_Go _ _ _ _ T25 (mkF m 31 #[.val (.int p_1), .val (.int p_2), .val (.int p_3), .val (.long q_4), .second, .val (.long (p_1.toInt64)), .second, .val (.long (p_2.toInt64)), .second, .val (.ref b1), .unset, .unset, .unset, .unset, .unset, .unset, .unset, .unset] [(.int p_3)])
  refine own_go (fun _ k => XS.sipush X25.here hx rfl (hb hby at_31) k) ?_
  show own_Go _ _ _ _ T25 (mkF m 34 #[.val (.int p_1), .val (.int p_2), .val (.int p_3), .val (.long q_4), .second, .val (.long (p_1.toInt64)), .second, .val (.long (p_2.toInt64)), .second, .val (.ref b1), .unset, .unset, .unset, .unset, .unset, .unset, .unset, .unset] [(.int (255 : Int32)), (.int p_3)])
  refine own_go (fun _ k => XS.iand X25.here hx rfl (hb hby at_34) rfl k) ?_
  show own_Go _ _ _ _ T25 (mkF m 35 #[.val (.int p_1), .val (.int p_2), .val (.int p_3), .val (.long q_4), .second, .val (.long (p_1.toInt64)), .second, .val (.long (p_2.toInt64)), .second, .val (.ref b1), .unset, .unset, .unset, .unset, .unset, .unset, .unset, .unset] [(.int (p_3 &&& (255 : Int32)))])
  refine own_go (fun _ k => XS.i2l X25.here hx rfl (hb hby at_35) rfl k) ?_
  show own_Go _ _ _ _ T25 (mkF m 36 #[.val (.int p_1), .val (.int p_2), .val (.int p_3), .val (.long q_4), .second, .val (.long (p_1.toInt64)), .second, .val (.long (p_2.toInt64)), .second, .val (.ref b1), .unset, .unset, .unset, .unset, .unset, .unset, .unset, .unset] [(.long ((p_3 &&& (255 : Int32)).toInt64))])
  refine own_go (fun _ k => XS.lstore X25.here hx rfl (hb hby at_36) rfl (l' := #[.val (.int p_1), .val (.int p_2), .val (.int p_3), .val (.long q_4), .second, .val (.long (p_1.toInt64)), .second, .val (.long (p_2.toInt64)), .second, .val (.ref b1), .val (.long ((p_3 &&& (255 : Int32)).toInt64)), .second, .unset, .unset, .unset, .unset, .unset, .unset]) rfl k) ?_
  show own_Go _ _ _ _ T25 (mkF m 38 #[.val (.int p_1), .val (.int p_2), .val (.int p_3), .val (.long q_4), .second, .val (.long (p_1.toInt64)), .second, .val (.long (p_2.toInt64)), .second, .val (.ref b1), .val (.long ((p_3 &&& (255 : Int32)).toInt64)), .second, .unset, .unset, .unset, .unset, .unset, .unset] [])
  generalize hdv45 : ((p_3 &&& (255 : Int32)).toInt64) = v45
  show own_Go _ _ _ _ T25 (mkF m 38 #[.val (.int p_1), .val (.int p_2), .val (.int p_3), .val (.long q_4), .second, .val (.long (p_1.toInt64)), .second, .val (.long (p_2.toInt64)), .second, .val (.ref b1), .val (.long v45), .second, .unset, .unset, .unset, .unset, .unset, .unset] [])
  refine own_go (fun _ k => XS.lloadN X25.here hx rfl (hb hby at_38) rfl k) ?_
  show own_Go _ _ _ _ T25 (mkF m 39 #[.val (.int p_1), .val (.int p_2), .val (.int p_3), .val (.long q_4), .second, .val (.long (p_1.toInt64)), .second, .val (.long (p_2.toInt64)), .second, .val (.ref b1), .val (.long v45), .second, .unset, .unset, .unset, .unset, .unset, .unset] [(.long q_4)])
  refine own_go (fun _ k => XS.bipush X25.here hx rfl (hb hby at_39) k) ?_
  show own_Go _ _ _ _ T25 (mkF m 41 #[.val (.int p_1), .val (.int p_2), .val (.int p_3), .val (.long q_4), .second, .val (.long (p_1.toInt64)), .second, .val (.long (p_2.toInt64)), .second, .val (.ref b1), .val (.long v45), .second, .unset, .unset, .unset, .unset, .unset, .unset] [(.int (9 : Int32)), (.long q_4)])
  refine own_go (fun _ k => XS.lshr X25.here hx rfl (hb hby at_41) rfl k) ?_
  show own_Go _ _ _ _ T25 (mkF m 42 #[.val (.int p_1), .val (.int p_2), .val (.int p_3), .val (.long q_4), .second, .val (.long (p_1.toInt64)), .second, .val (.long (p_2.toInt64)), .second, .val (.ref b1), .val (.long v45), .second, .unset, .unset, .unset, .unset, .unset, .unset] [(.long (q_4 >>> ((9 : Int32) &&& 0x3f).toInt64))])
  refine own_go (fun _ k => XS.lstore X25.here hx rfl (hb hby at_42) rfl (l' := #[.val (.int p_1), .val (.int p_2), .val (.int p_3), .val (.long q_4), .second, .val (.long (p_1.toInt64)), .second, .val (.long (p_2.toInt64)), .second, .val (.ref b1), .val (.long v45), .second, .val (.long (q_4 >>> ((9 : Int32) &&& 0x3f).toInt64)), .second, .unset, .unset, .unset, .unset]) rfl k) ?_
  show own_Go _ _ _ _ T25 (mkF m 44 #[.val (.int p_1), .val (.int p_2), .val (.int p_3), .val (.long q_4), .second, .val (.long (p_1.toInt64)), .second, .val (.long (p_2.toInt64)), .second, .val (.ref b1), .val (.long v45), .second, .val (.long (q_4 >>> ((9 : Int32) &&& 0x3f).toInt64)), .second, .unset, .unset, .unset, .unset] [])
  generalize hdv46 : (q_4 >>> ((9 : Int32) &&& 0x3f).toInt64) = v46
  show own_Go _ _ _ _ T25 (mkF m 44 #[.val (.int p_1), .val (.int p_2), .val (.int p_3), .val (.long q_4), .second, .val (.long (p_1.toInt64)), .second, .val (.long (p_2.toInt64)), .second, .val (.ref b1), .val (.long v45), .second, .val (.long v46), .second, .unset, .unset, .unset, .unset] [])
  obtain ⟨T47, h47, X47, e47, E47, A47, D47, Y47, st47⟩ := newO X25 hx hZ hown (hw _ (List.mem_of_getElem? (i := 0) rfl)) (hw _ (List.mem_of_getElem? (i := 1) rfl)) (hw _ (List.mem_of_getElem? (i := 2) rfl)) rfl (g := (mkF m 44 #[.val (.int p_1), .val (.int p_2), .val (.int p_3), .val (.long q_4), .second, .val (.long (p_1.toInt64)), .second, .val (.long (p_2.toInt64)), .second, .val (.ref b1), .val (.long v45), .second, .val (.long v46), .second, .unset, .unset, .unset, .unset] [])) rfl (hb hby at_44) (by rw [y25]; decide) (by rw [z25]; decide)
  obtain ⟨b47, g47⟩ : ∃ z, z = T25.heap.size := ⟨_, rfl⟩
  rw [← g47] at A47 D47 Y47 st47
  have z48 := E47.1
  have lt_b47 := own_lt A47.lt
  have F_id_b47 : Fld Z h47 b47 "com/example/orderly_storefront/orderlystorefront/order/OrderLine" "id" "Ljava/lang/String;" .null := D47 (Or.inr (hw _ (List.mem_of_getElem? (i := 26) rfl))) (ty := (.object "java/lang/String")) (by decide)
  have F_variantId_b47 : Fld Z h47 b47 "com/example/orderly_storefront/orderlystorefront/order/OrderLine" "variantId" "Ljava/lang/String;" .null := D47 (Or.inr (hw _ (List.mem_of_getElem? (i := 28) rfl))) (ty := (.object "java/lang/String")) (by decide)
  have F_sku_b47 : Fld Z h47 b47 "com/example/orderly_storefront/orderlystorefront/order/OrderLine" "sku" "Ljava/lang/String;" .null := D47 (Or.inr (hw _ (List.mem_of_getElem? (i := 30) rfl))) (ty := (.object "java/lang/String")) (by decide)
  have F_productTitle_b47 : Fld Z h47 b47 "com/example/orderly_storefront/orderlystorefront/order/OrderLine" "productTitle" "Ljava/lang/String;" .null := D47 (Or.inr (hw _ (List.mem_of_getElem? (i := 32) rfl))) (ty := (.object "java/lang/String")) (by decide)
  have F_variantTitle_b47 : Fld Z h47 b47 "com/example/orderly_storefront/orderlystorefront/order/OrderLine" "variantTitle" "Ljava/lang/String;" .null := D47 (Or.inr (hw _ (List.mem_of_getElem? (i := 34) rfl))) (ty := (.object "java/lang/String")) (by decide)
  have F_quantity_b47 : Fld Z h47 b47 "com/example/orderly_storefront/orderlystorefront/order/OrderLine" "quantity" "J" (.long (0 : Int64)) := D47 (Or.inr (hw _ (List.mem_of_getElem? (i := 36) rfl))) (ty := .long) (by decide)
  have F_unitPrice_b47 : Fld Z h47 b47 "com/example/orderly_storefront/orderlystorefront/order/OrderLine" "unitPrice" "J" (.long (0 : Int64)) := D47 (Or.inr (hw _ (List.mem_of_getElem? (i := 38) rfl))) (ty := .long) (by decide)
  refine own_go (fun _ k => st47 _ k) ?_
  show own_Go _ _ _ _ T47 (mkF m 47 #[.val (.int p_1), .val (.int p_2), .val (.int p_3), .val (.long q_4), .second, .val (.long (p_1.toInt64)), .second, .val (.long (p_2.toInt64)), .second, .val (.ref b1), .val (.long v45), .second, .val (.long v46), .second, .unset, .unset, .unset, .unset] [(.ref b47)])
  refine own_go (fun _ k => XS.dup X47.here hx rfl (hb hby at_47) rfl rfl k) ?_
  show own_Go _ _ _ _ T47 (mkF m 48 #[.val (.int p_1), .val (.int p_2), .val (.int p_3), .val (.long q_4), .second, .val (.long (p_1.toInt64)), .second, .val (.long (p_2.toInt64)), .second, .val (.ref b1), .val (.long v45), .second, .val (.long v46), .second, .unset, .unset, .unset, .unset] [(.ref b47), (.ref b47)])
  refine own_go (fun _ k => ldcAgain X47 hx hZ hown (hw _ (List.mem_of_getElem? (i := 3) rfl)) Li14 (g := (mkF m 48 #[.val (.int p_1), .val (.int p_2), .val (.int p_3), .val (.long q_4), .second, .val (.long (p_1.toInt64)), .second, .val (.long (p_2.toInt64)), .second, .val (.ref b1), .val (.long v45), .second, .val (.long v46), .second, .unset, .unset, .unset, .unset] [(.ref b47), (.ref b47)])) rfl (hb hby at_48) _ k) ?_
  show own_Go _ _ _ _ T47 (mkF m 50 #[.val (.int p_1), .val (.int p_2), .val (.int p_3), .val (.long q_4), .second, .val (.long (p_1.toInt64)), .second, .val (.long (p_2.toInt64)), .second, .val (.ref b1), .val (.long v45), .second, .val (.long v46), .second, .unset, .unset, .unset, .unset] [(.ref b3), (.ref b47), (.ref b47)])
  refine own_go (fun _ k => ldcAgain X47 hx hZ hown (hw _ (List.mem_of_getElem? (i := 11) rfl)) Li15 (g := (mkF m 50 #[.val (.int p_1), .val (.int p_2), .val (.int p_3), .val (.long q_4), .second, .val (.long (p_1.toInt64)), .second, .val (.long (p_2.toInt64)), .second, .val (.ref b1), .val (.long v45), .second, .val (.long v46), .second, .unset, .unset, .unset, .unset] [(.ref b3), (.ref b47), (.ref b47)])) rfl (hb hby at_50) _ k) ?_
  show own_Go _ _ _ _ T47 (mkF m 52 #[.val (.int p_1), .val (.int p_2), .val (.int p_3), .val (.long q_4), .second, .val (.long (p_1.toInt64)), .second, .val (.long (p_2.toInt64)), .second, .val (.ref b1), .val (.long v45), .second, .val (.long v46), .second, .unset, .unset, .unset, .unset] [(.ref b5), (.ref b3), (.ref b47), (.ref b47)])
  obtain ⟨b51, T51, h51, k51, X51, e51, E51, hS51, g51, hZ, hown, Li51, Wn51, st51⟩ := own_ldcSL X47 hx hZ hown (hw _ (List.mem_of_getElem? (i := 39) rfl)) (own_wS hw) e47 hS12 (by omega) (g := (mkF m 52 #[.val (.int p_1), .val (.int p_2), .val (.int p_3), .val (.long q_4), .second, .val (.long (p_1.toInt64)), .second, .val (.long (p_2.toInt64)), .second, .val (.ref b1), .val (.long v45), .second, .val (.long v46), .second, .unset, .unset, .unset, .unset] [(.ref b5), (.ref b3), (.ref b47), (.ref b47)])) rfl (hb hby at_52) (n := 4) (by decide +kernel) (by decide) (by rw [y25]; decide) (by rw [z25]; decide)
  have z52 := E51.1
  have Li53 := Li14.stays Wn51
  have Li54 := Li15.stays Wn51
  have Li55 := Li16.stays Wn51
  have Li56 := Li12.stays Wn51
  refine own_go (fun _ k => st51 _ k) ?_
  show own_Go _ _ _ _ T51 (mkF m 54 #[.val (.int p_1), .val (.int p_2), .val (.int p_3), .val (.long q_4), .second, .val (.long (p_1.toInt64)), .second, .val (.long (p_2.toInt64)), .second, .val (.ref b1), .val (.long v45), .second, .val (.long v46), .second, .unset, .unset, .unset, .unset] [(.ref b51), (.ref b5), (.ref b3), (.ref b47), (.ref b47)])
  refine own_go (fun _ k => ldcAgain X51 hx hZ hown (hw _ (List.mem_of_getElem? (i := 12) rfl)) Li55 (g := (mkF m 54 #[.val (.int p_1), .val (.int p_2), .val (.int p_3), .val (.long q_4), .second, .val (.long (p_1.toInt64)), .second, .val (.long (p_2.toInt64)), .second, .val (.ref b1), .val (.long v45), .second, .val (.long v46), .second, .unset, .unset, .unset, .unset] [(.ref b51), (.ref b5), (.ref b3), (.ref b47), (.ref b47)])) rfl (hb hby at_54) _ k) ?_
  show own_Go _ _ _ _ T51 (mkF m 56 #[.val (.int p_1), .val (.int p_2), .val (.int p_3), .val (.long q_4), .second, .val (.long (p_1.toInt64)), .second, .val (.long (p_2.toInt64)), .second, .val (.ref b1), .val (.long v45), .second, .val (.long v46), .second, .unset, .unset, .unset, .unset] [(.ref b8), (.ref b51), (.ref b5), (.ref b3), (.ref b47), (.ref b47)])
  refine own_go (fun _ k => ldcAgain X51 hx hZ hown (hw _ (List.mem_of_getElem? (i := 13) rfl)) Li56 (g := (mkF m 56 #[.val (.int p_1), .val (.int p_2), .val (.int p_3), .val (.long q_4), .second, .val (.long (p_1.toInt64)), .second, .val (.long (p_2.toInt64)), .second, .val (.ref b1), .val (.long v45), .second, .val (.long v46), .second, .unset, .unset, .unset, .unset] [(.ref b8), (.ref b51), (.ref b5), (.ref b3), (.ref b47), (.ref b47)])) rfl (hb hby at_56) _ k) ?_
  show own_Go _ _ _ _ T51 (mkF m 58 #[.val (.int p_1), .val (.int p_2), .val (.int p_3), .val (.long q_4), .second, .val (.long (p_1.toInt64)), .second, .val (.long (p_2.toInt64)), .second, .val (.ref b1), .val (.long v45), .second, .val (.long v46), .second, .unset, .unset, .unset, .unset] [(.ref b12), (.ref b8), (.ref b51), (.ref b5), (.ref b3), (.ref b47), (.ref b47)])
  refine own_go (fun _ k => XS.lload X51.here hx rfl (hb hby at_58) rfl k) ?_
  show own_Go _ _ _ _ T51 (mkF m 60 #[.val (.int p_1), .val (.int p_2), .val (.int p_3), .val (.long q_4), .second, .val (.long (p_1.toInt64)), .second, .val (.long (p_2.toInt64)), .second, .val (.ref b1), .val (.long v45), .second, .val (.long v46), .second, .unset, .unset, .unset, .unset] [(.long v45), (.ref b12), (.ref b8), (.ref b51), (.ref b5), (.ref b3), (.ref b47), (.ref b47)])
  refine own_go (fun _ k => XS.lload X51.here hx rfl (hb hby at_60) rfl k) ?_
  show own_Go _ _ _ _ T51 (mkF m 62 #[.val (.int p_1), .val (.int p_2), .val (.int p_3), .val (.long q_4), .second, .val (.long (p_1.toInt64)), .second, .val (.long (p_2.toInt64)), .second, .val (.ref b1), .val (.long v45), .second, .val (.long v46), .second, .unset, .unset, .unset, .unset] [(.long v46), (.long v45), (.ref b12), (.ref b8), (.ref b51), (.ref b5), (.ref b3), (.ref b47), (.ref b47)])
  have f59 : Exa Z h51 b47 "com/example/orderly_storefront/orderlystorefront/order/OrderLine" := (A47.ext E51)
  have f60 : Fld Z h51 b47 "com/example/orderly_storefront/orderlystorefront/order/OrderLine" "id" "Ljava/lang/String;" .null := (F_id_b47.ext E51)
  have f61 : Fld Z h51 b47 "com/example/orderly_storefront/orderlystorefront/order/OrderLine" "variantId" "Ljava/lang/String;" .null := (F_variantId_b47.ext E51)
  have f62 : Fld Z h51 b47 "com/example/orderly_storefront/orderlystorefront/order/OrderLine" "sku" "Ljava/lang/String;" .null := (F_sku_b47.ext E51)
  have f63 : Fld Z h51 b47 "com/example/orderly_storefront/orderlystorefront/order/OrderLine" "productTitle" "Ljava/lang/String;" .null := (F_productTitle_b47.ext E51)
  have f64 : Fld Z h51 b47 "com/example/orderly_storefront/orderlystorefront/order/OrderLine" "variantTitle" "Ljava/lang/String;" .null := (F_variantTitle_b47.ext E51)
  have f65 : Fld Z h51 b47 "com/example/orderly_storefront/orderlystorefront/order/OrderLine" "quantity" "J" (.long (0 : Int64)) := (F_quantity_b47.ext E51)
  have f66 : Fld Z h51 b47 "com/example/orderly_storefront/orderlystorefront/order/OrderLine" "unitPrice" "J" (.long (0 : Int64)) := (F_unitPrice_b47.ext E51)
  obtain ⟨_, _, ⟨T67, L67, k67, n67⟩, -, X67, ⟨Lc67, hQ67, l67, y67, z67⟩, st67⟩ := X51.specialBack hx (y := (⟨"com/example/orderly_storefront/orderlystorefront/order/OrderLine", "<init>", "(Ljava/lang/String;Ljava/lang/String;Ljava/lang/String;Ljava/lang/String;Ljava/lang/String;JJ)V"⟩ : MethodName)) rfl hown (mvT hZ (hw _ (List.mem_of_getElem? (i := 14) rfl))) (mvT hZ (hw _ (List.mem_of_getElem? (i := 15) rfl))) (mvT hZ (hw _ (List.mem_of_getElem? (i := 16) rfl))) (by decide) (backOf (W := 1) (own_rm1 l Z a0 hw [] b47 b3 b5 b51 b8 b12 v45 v46 .null .null .null .null .null (0 : Int64) (0 : Int64) h51 n0 (by omega) f59 f60 f61 f62 f63 f64 f65 f66 (by omega)) hZ (hw _ (List.mem_of_getElem? (i := 16) rfl)) (hw _ (List.mem_of_getElem? (i := 2) rfl)) (by decide) (by decide)) (g := (mkF m 62 #[.val (.int p_1), .val (.int p_2), .val (.int p_3), .val (.long q_4), .second, .val (.long (p_1.toInt64)), .second, .val (.long (p_2.toInt64)), .second, .val (.ref b1), .val (.long v45), .second, .val (.long v46), .second, .unset, .unset, .unset, .unset] [(.long v46), (.long v45), (.ref b12), (.ref b8), (.ref b51), (.ref b5), (.ref b3), (.ref b47), (.ref b47)])) rfl (by rw [hml]; rfl) (Steps.refl _) (a := b47) (argsL := [(.ref b3), (.ref b5), (.ref b51), (.ref b8), (.ref b12), (.long v45), (.long v46)]) (rest := [(.ref b47)]) (lenOf own_pd3 rfl) rfl (by show 2 * 0 + _ ≤ _; exact Nat.le_of_eq rfl) (hb hby at_62) (fun _ _ => ⟨rfl, e51, (by show k25 + 1 + 2 + _ ≤ _; rw [y25]; decide), (by show n25 + 7 + 8 + _ ≤ _; rw [z25]; decide)⟩)
  dsimp only [Pt.U, Pt.locs, Pt.cells, Pt.slots] at X67 l67 y67 z67 st67 hQ67
  have y67 : k67 = 12 := own_addeq y67 (congrArg (fun q => q + 1 + 2) y25) rfl
  have z67 : n67 = 54 := own_addeq z67 (congrArg (fun q => q + 7 + 8) z25) rfl
  obtain ⟨rfl, N67q, K67q, f68, f69, f70, f71, f72, f73, f74, f75⟩ := hQ67
  have N67 : Fr n0 L67 := by rw [l67]; exact Fr.app N25 N67q
  have z76 := K67q.1
  have z77 := own_lt f68.lt
  have z78 := own_lt f69.lt
  have z79 := own_lt f70.lt
  have z80 := own_lt f71.lt
  have z81 := own_lt f72.lt
  have z82 := own_lt f73.lt
  have z83 := own_lt f74.lt
  have z84 := own_lt f75.lt
  refine own_go (fun _ k => st67.trans k) ?_
  show own_Go _ _ _ _ T67 (mkF m 65 #[.val (.int p_1), .val (.int p_2), .val (.int p_3), .val (.long q_4), .second, .val (.long (p_1.toInt64)), .second, .val (.long (p_2.toInt64)), .second, .val (.ref b1), .val (.long v45), .second, .val (.long v46), .second, .unset, .unset, .unset, .unset] [(.ref b47)])
  refine own_go (fun _ k => XS.astore X67.here hx rfl (hb hby at_65) rfl rfl (l' := #[.val (.int p_1), .val (.int p_2), .val (.int p_3), .val (.long q_4), .second, .val (.long (p_1.toInt64)), .second, .val (.long (p_2.toInt64)), .second, .val (.ref b1), .val (.long v45), .second, .val (.long v46), .second, .val (.ref b47), .unset, .unset, .unset]) rfl k) ?_
  show own_Go _ _ _ _ T67 (mkF m 67 #[.val (.int p_1), .val (.int p_2), .val (.int p_3), .val (.long q_4), .second, .val (.long (p_1.toInt64)), .second, .val (.long (p_2.toInt64)), .second, .val (.ref b1), .val (.long v45), .second, .val (.long v46), .second, .val (.ref b47), .unset, .unset, .unset] [])
  obtain ⟨T85, h85, X85, e85, E85, A85, D85, Y85, st85⟩ := newO X67 hx hZ hown (hw _ (List.mem_of_getElem? (i := 0) rfl)) (hw _ (List.mem_of_getElem? (i := 1) rfl)) (hw _ (List.mem_of_getElem? (i := 2) rfl)) rfl (g := (mkF m 67 #[.val (.int p_1), .val (.int p_2), .val (.int p_3), .val (.long q_4), .second, .val (.long (p_1.toInt64)), .second, .val (.long (p_2.toInt64)), .second, .val (.ref b1), .val (.long v45), .second, .val (.long v46), .second, .val (.ref b47), .unset, .unset, .unset] [])) rfl (hb hby at_67) (by rw [y67]; decide) (by rw [z67]; decide)
  obtain ⟨b85, g85⟩ : ∃ z, z = T67.heap.size := ⟨_, rfl⟩
  rw [← g85] at A85 D85 Y85 st85
  have z86 := E85.1
  have lt_b85 := own_lt A85.lt
  have F_id_b85 : Fld Z h85 b85 "com/example/orderly_storefront/orderlystorefront/order/OrderLine" "id" "Ljava/lang/String;" .null := D85 (Or.inr (hw _ (List.mem_of_getElem? (i := 26) rfl))) (ty := (.object "java/lang/String")) (by decide)
  have F_variantId_b85 : Fld Z h85 b85 "com/example/orderly_storefront/orderlystorefront/order/OrderLine" "variantId" "Ljava/lang/String;" .null := D85 (Or.inr (hw _ (List.mem_of_getElem? (i := 28) rfl))) (ty := (.object "java/lang/String")) (by decide)
  have F_sku_b85 : Fld Z h85 b85 "com/example/orderly_storefront/orderlystorefront/order/OrderLine" "sku" "Ljava/lang/String;" .null := D85 (Or.inr (hw _ (List.mem_of_getElem? (i := 30) rfl))) (ty := (.object "java/lang/String")) (by decide)
  have F_productTitle_b85 : Fld Z h85 b85 "com/example/orderly_storefront/orderlystorefront/order/OrderLine" "productTitle" "Ljava/lang/String;" .null := D85 (Or.inr (hw _ (List.mem_of_getElem? (i := 32) rfl))) (ty := (.object "java/lang/String")) (by decide)
  have F_variantTitle_b85 : Fld Z h85 b85 "com/example/orderly_storefront/orderlystorefront/order/OrderLine" "variantTitle" "Ljava/lang/String;" .null := D85 (Or.inr (hw _ (List.mem_of_getElem? (i := 34) rfl))) (ty := (.object "java/lang/String")) (by decide)
  have F_quantity_b85 : Fld Z h85 b85 "com/example/orderly_storefront/orderlystorefront/order/OrderLine" "quantity" "J" (.long (0 : Int64)) := D85 (Or.inr (hw _ (List.mem_of_getElem? (i := 36) rfl))) (ty := .long) (by decide)
  have F_unitPrice_b85 : Fld Z h85 b85 "com/example/orderly_storefront/orderlystorefront/order/OrderLine" "unitPrice" "J" (.long (0 : Int64)) := D85 (Or.inr (hw _ (List.mem_of_getElem? (i := 38) rfl))) (ty := .long) (by decide)
  refine own_go (fun _ k => st85 _ k) ?_
  show own_Go _ _ _ _ T85 (mkF m 70 #[.val (.int p_1), .val (.int p_2), .val (.int p_3), .val (.long q_4), .second, .val (.long (p_1.toInt64)), .second, .val (.long (p_2.toInt64)), .second, .val (.ref b1), .val (.long v45), .second, .val (.long v46), .second, .val (.ref b47), .unset, .unset, .unset] [(.ref b85)])
  refine own_go (fun _ k => XS.dup X85.here hx rfl (hb hby at_70) rfl rfl k) ?_
  show own_Go _ _ _ _ T85 (mkF m 71 #[.val (.int p_1), .val (.int p_2), .val (.int p_3), .val (.long q_4), .second, .val (.long (p_1.toInt64)), .second, .val (.long (p_2.toInt64)), .second, .val (.ref b1), .val (.long v45), .second, .val (.long v46), .second, .val (.ref b47), .unset, .unset, .unset] [(.ref b85), (.ref b85)])
  refine own_go (fun _ k => ldcAgain X85 hx hZ hown (hw _ (List.mem_of_getElem? (i := 3) rfl)) Li53 (g := (mkF m 71 #[.val (.int p_1), .val (.int p_2), .val (.int p_3), .val (.long q_4), .second, .val (.long (p_1.toInt64)), .second, .val (.long (p_2.toInt64)), .second, .val (.ref b1), .val (.long v45), .second, .val (.long v46), .second, .val (.ref b47), .unset, .unset, .unset] [(.ref b85), (.ref b85)])) rfl (hb hby at_71) _ k) ?_
  show own_Go _ _ _ _ T85 (mkF m 73 #[.val (.int p_1), .val (.int p_2), .val (.int p_3), .val (.long q_4), .second, .val (.long (p_1.toInt64)), .second, .val (.long (p_2.toInt64)), .second, .val (.ref b1), .val (.long v45), .second, .val (.long v46), .second, .val (.ref b47), .unset, .unset, .unset] [(.ref b3), (.ref b85), (.ref b85)])
  refine own_go (fun _ k => ldcAgain X85 hx hZ hown (hw _ (List.mem_of_getElem? (i := 11) rfl)) Li54 (g := (mkF m 73 #[.val (.int p_1), .val (.int p_2), .val (.int p_3), .val (.long q_4), .second, .val (.long (p_1.toInt64)), .second, .val (.long (p_2.toInt64)), .second, .val (.ref b1), .val (.long v45), .second, .val (.long v46), .second, .val (.ref b47), .unset, .unset, .unset] [(.ref b3), (.ref b85), (.ref b85)])) rfl (hb hby at_73) _ k) ?_
  show own_Go _ _ _ _ T85 (mkF m 75 #[.val (.int p_1), .val (.int p_2), .val (.int p_3), .val (.long q_4), .second, .val (.long (p_1.toInt64)), .second, .val (.long (p_2.toInt64)), .second, .val (.ref b1), .val (.long v45), .second, .val (.long v46), .second, .val (.ref b47), .unset, .unset, .unset] [(.ref b5), (.ref b3), (.ref b85), (.ref b85)])
  refine own_go (fun _ k => ldcAgain X85 hx hZ hown (hw _ (List.mem_of_getElem? (i := 39) rfl)) Li51 (g := (mkF m 75 #[.val (.int p_1), .val (.int p_2), .val (.int p_3), .val (.long q_4), .second, .val (.long (p_1.toInt64)), .second, .val (.long (p_2.toInt64)), .second, .val (.ref b1), .val (.long v45), .second, .val (.long v46), .second, .val (.ref b47), .unset, .unset, .unset] [(.ref b5), (.ref b3), (.ref b85), (.ref b85)])) rfl (hb hby at_75) _ k) ?_
  show own_Go _ _ _ _ T85 (mkF m 77 #[.val (.int p_1), .val (.int p_2), .val (.int p_3), .val (.long q_4), .second, .val (.long (p_1.toInt64)), .second, .val (.long (p_2.toInt64)), .second, .val (.ref b1), .val (.long v45), .second, .val (.long v46), .second, .val (.ref b47), .unset, .unset, .unset] [(.ref b51), (.ref b5), (.ref b3), (.ref b85), (.ref b85)])
  refine own_go (fun _ k => ldcAgain X85 hx hZ hown (hw _ (List.mem_of_getElem? (i := 12) rfl)) Li55 (g := (mkF m 77 #[.val (.int p_1), .val (.int p_2), .val (.int p_3), .val (.long q_4), .second, .val (.long (p_1.toInt64)), .second, .val (.long (p_2.toInt64)), .second, .val (.ref b1), .val (.long v45), .second, .val (.long v46), .second, .val (.ref b47), .unset, .unset, .unset] [(.ref b51), (.ref b5), (.ref b3), (.ref b85), (.ref b85)])) rfl (hb hby at_77) _ k) ?_
  show own_Go _ _ _ _ T85 (mkF m 79 #[.val (.int p_1), .val (.int p_2), .val (.int p_3), .val (.long q_4), .second, .val (.long (p_1.toInt64)), .second, .val (.long (p_2.toInt64)), .second, .val (.ref b1), .val (.long v45), .second, .val (.long v46), .second, .val (.ref b47), .unset, .unset, .unset] [(.ref b8), (.ref b51), (.ref b5), (.ref b3), (.ref b85), (.ref b85)])
  refine own_go (fun _ k => ldcAgain X85 hx hZ hown (hw _ (List.mem_of_getElem? (i := 13) rfl)) Li56 (g := (mkF m 79 #[.val (.int p_1), .val (.int p_2), .val (.int p_3), .val (.long q_4), .second, .val (.long (p_1.toInt64)), .second, .val (.long (p_2.toInt64)), .second, .val (.ref b1), .val (.long v45), .second, .val (.long v46), .second, .val (.ref b47), .unset, .unset, .unset] [(.ref b8), (.ref b51), (.ref b5), (.ref b3), (.ref b85), (.ref b85)])) rfl (hb hby at_79) _ k) ?_
  show own_Go _ _ _ _ T85 (mkF m 81 #[.val (.int p_1), .val (.int p_2), .val (.int p_3), .val (.long q_4), .second, .val (.long (p_1.toInt64)), .second, .val (.long (p_2.toInt64)), .second, .val (.ref b1), .val (.long v45), .second, .val (.long v46), .second, .val (.ref b47), .unset, .unset, .unset] [(.ref b12), (.ref b8), (.ref b51), (.ref b5), (.ref b3), (.ref b85), (.ref b85)])
  refine own_go (fun _ k => XS.lload X85.here hx rfl (hb hby at_81) rfl k) ?_
  show own_Go _ _ _ _ T85 (mkF m 83 #[.val (.int p_1), .val (.int p_2), .val (.int p_3), .val (.long q_4), .second, .val (.long (p_1.toInt64)), .second, .val (.long (p_2.toInt64)), .second, .val (.ref b1), .val (.long v45), .second, .val (.long v46), .second, .val (.ref b47), .unset, .unset, .unset] [(.long v46), (.ref b12), (.ref b8), (.ref b51), (.ref b5), (.ref b3), (.ref b85), (.ref b85)])
  refine own_go (fun _ k => XS.lload X85.here hx rfl (hb hby at_83) rfl k) ?_
  show own_Go _ _ _ _ T85 (mkF m 85 #[.val (.int p_1), .val (.int p_2), .val (.int p_3), .val (.long q_4), .second, .val (.long (p_1.toInt64)), .second, .val (.long (p_2.toInt64)), .second, .val (.ref b1), .val (.long v45), .second, .val (.long v46), .second, .val (.ref b47), .unset, .unset, .unset] [(.long v45), (.long v46), (.ref b12), (.ref b8), (.ref b51), (.ref b5), (.ref b3), (.ref b85), (.ref b85)])
  obtain ⟨_, _, ⟨T92, L92, k92, n92⟩, -, X92, ⟨Lc92, hQ92, l92, y92, z92⟩, st92⟩ := X85.specialBack hx (y := (⟨"com/example/orderly_storefront/orderlystorefront/order/OrderLine", "<init>", "(Ljava/lang/String;Ljava/lang/String;Ljava/lang/String;Ljava/lang/String;Ljava/lang/String;JJ)V"⟩ : MethodName)) rfl hown (mvT hZ (hw _ (List.mem_of_getElem? (i := 14) rfl))) (mvT hZ (hw _ (List.mem_of_getElem? (i := 15) rfl))) (mvT hZ (hw _ (List.mem_of_getElem? (i := 16) rfl))) (by decide) (backOf (W := 1) (own_rm1 l Z a0 hw [] b85 b3 b5 b51 b8 b12 v46 v45 .null .null .null .null .null (0 : Int64) (0 : Int64) h85 n0 (by omega) A85 F_id_b85 F_variantId_b85 F_sku_b85 F_productTitle_b85 F_variantTitle_b85 F_quantity_b85 F_unitPrice_b85 (by omega)) hZ (hw _ (List.mem_of_getElem? (i := 16) rfl)) (hw _ (List.mem_of_getElem? (i := 2) rfl)) (by decide) (by decide)) (g := (mkF m 85 #[.val (.int p_1), .val (.int p_2), .val (.int p_3), .val (.long q_4), .second, .val (.long (p_1.toInt64)), .second, .val (.long (p_2.toInt64)), .second, .val (.ref b1), .val (.long v45), .second, .val (.long v46), .second, .val (.ref b47), .unset, .unset, .unset] [(.long v45), (.long v46), (.ref b12), (.ref b8), (.ref b51), (.ref b5), (.ref b3), (.ref b85), (.ref b85)])) rfl (by rw [hml]; rfl) (Steps.refl _) (a := b85) (argsL := [(.ref b3), (.ref b5), (.ref b51), (.ref b8), (.ref b12), (.long v46), (.long v45)]) (rest := [(.ref b85)]) (lenOf own_pd3 rfl) rfl (by show 2 * 0 + _ ≤ _; exact Nat.le_of_eq rfl) (hb hby at_85) (fun _ _ => ⟨rfl, e85, (by show k67 + 1 + _ ≤ _; rw [y67]; decide), (by show n67 + 7 + _ ≤ _; rw [z67]; decide)⟩)
  dsimp only [Pt.U, Pt.locs, Pt.cells, Pt.slots] at X92 l92 y92 z92 st92 hQ92
  have y92 : k92 = 13 := own_addeq y92 (congrArg (fun q => q + 1) y67) rfl
  have z92 : n92 = 61 := own_addeq z92 (congrArg (fun q => q + 7) z67) rfl
  obtain ⟨rfl, N92q, K92q, f93, f94, f95, f96, f97, f98, f99, f100⟩ := hQ92
  have N92 : Fr n0 L92 := by rw [l92]; exact Fr.app N67 N92q
  have z101 := K92q.1
  have z102 := own_lt f93.lt
  have z103 := own_lt f94.lt
  have z104 := own_lt f95.lt
  have z105 := own_lt f96.lt
  have z106 := own_lt f97.lt
  have z107 := own_lt f98.lt
  have z108 := own_lt f99.lt
  have z109 := own_lt f100.lt
  refine own_go (fun _ k => st92.trans k) ?_
  show own_Go _ _ _ _ T92 (mkF m 88 #[.val (.int p_1), .val (.int p_2), .val (.int p_3), .val (.long q_4), .second, .val (.long (p_1.toInt64)), .second, .val (.long (p_2.toInt64)), .second, .val (.ref b1), .val (.long v45), .second, .val (.long v46), .second, .val (.ref b47), .unset, .unset, .unset] [(.ref b85)])
  refine own_go (fun _ k => XS.astore X92.here hx rfl (hb hby at_88) rfl rfl (l' := #[.val (.int p_1), .val (.int p_2), .val (.int p_3), .val (.long q_4), .second, .val (.long (p_1.toInt64)), .second, .val (.long (p_2.toInt64)), .second, .val (.ref b1), .val (.long v45), .second, .val (.long v46), .second, .val (.ref b47), .val (.ref b85), .unset, .unset]) rfl k) ?_
  show own_Go _ _ _ _ T92 (mkF m 90 #[.val (.int p_1), .val (.int p_2), .val (.int p_3), .val (.long q_4), .second, .val (.long (p_1.toInt64)), .second, .val (.long (p_2.toInt64)), .second, .val (.ref b1), .val (.long v45), .second, .val (.long v46), .second, .val (.ref b47), .val (.ref b85), .unset, .unset] [])
  refine own_go (fun _ k => XS.lload X92.here hx rfl (hb hby at_90) rfl k) ?_
  show own_Go _ _ _ _ T92 (mkF m 92 #[.val (.int p_1), .val (.int p_2), .val (.int p_3), .val (.long q_4), .second, .val (.long (p_1.toInt64)), .second, .val (.long (p_2.toInt64)), .second, .val (.ref b1), .val (.long v45), .second, .val (.long v46), .second, .val (.ref b47), .val (.ref b85), .unset, .unset] [(.long v45)])
  refine own_go (fun _ k => XS.lload X92.here hx rfl (hb hby at_92) rfl k) ?_
  show own_Go _ _ _ _ T92 (mkF m 94 #[.val (.int p_1), .val (.int p_2), .val (.int p_3), .val (.long q_4), .second, .val (.long (p_1.toInt64)), .second, .val (.long (p_2.toInt64)), .second, .val (.ref b1), .val (.long v45), .second, .val (.long v46), .second, .val (.ref b47), .val (.ref b85), .unset, .unset] [(.long v46), (.long v45)])
  refine own_go (fun _ k => XS.lmul X92.here hx rfl (hb hby at_94) rfl k) ?_
  show own_Go _ _ _ _ T92 (mkF m 95 #[.val (.int p_1), .val (.int p_2), .val (.int p_3), .val (.long q_4), .second, .val (.long (p_1.toInt64)), .second, .val (.long (p_2.toInt64)), .second, .val (.ref b1), .val (.long v45), .second, .val (.long v46), .second, .val (.ref b47), .val (.ref b85), .unset, .unset] [(.long (v45 * v46))])
  refine own_go (fun _ k => XS.lstore X92.here hx rfl (hb hby at_95) rfl (l' := #[.val (.int p_1), .val (.int p_2), .val (.int p_3), .val (.long q_4), .second, .val (.long (p_1.toInt64)), .second, .val (.long (p_2.toInt64)), .second, .val (.ref b1), .val (.long v45), .second, .val (.long v46), .second, .val (.ref b47), .val (.ref b85), .val (.long (v45 * v46)), .second]) rfl k) ?_
  show own_Go _ _ _ _ T92 (mkF m 97 #[.val (.int p_1), .val (.int p_2), .val (.int p_3), .val (.long q_4), .second, .val (.long (p_1.toInt64)), .second, .val (.long (p_2.toInt64)), .second, .val (.ref b1), .val (.long v45), .second, .val (.long v46), .second, .val (.ref b47), .val (.ref b85), .val (.long (v45 * v46)), .second] [])
  generalize hdv110 : (v45 * v46) = v110
  show own_Go _ _ _ _ T92 (mkF m 97 #[.val (.int p_1), .val (.int p_2), .val (.int p_3), .val (.long q_4), .second, .val (.long (p_1.toInt64)), .second, .val (.long (p_2.toInt64)), .second, .val (.ref b1), .val (.long v45), .second, .val (.long v46), .second, .val (.ref b47), .val (.ref b85), .val (.long v110), .second] [])
  refine own_go (fun _ k => XS.aload X92.here hx rfl (hb hby at_97) rfl rfl k) ?_
  show own_Go _ _ _ _ T92 (mkF m 99 #[.val (.int p_1), .val (.int p_2), .val (.int p_3), .val (.long q_4), .second, .val (.long (p_1.toInt64)), .second, .val (.long (p_2.toInt64)), .second, .val (.ref b1), .val (.long v45), .second, .val (.long v46), .second, .val (.ref b47), .val (.ref b85), .val (.long v110), .second] [(.ref b1)])
  have f111 : Fld Z T92.heap b1 "com/example/orderly_storefront/orderlystorefront/order/OrderLine" "quantity" "J" (.long v41) := (((((f32.ext E47).ext E51).keep K67q (ninS (own_ne (by omega)) nin0)).ext E85).keep K92q (ninS (own_ne (by omega)) nin0))
  have f112 : Fld Z T92.heap b1 "com/example/orderly_storefront/orderlystorefront/order/OrderLine" "unitPrice" "J" (.long v43) := (((((f33.ext E47).ext E51).keep K67q (ninS (own_ne (by omega)) nin0)).ext E85).keep K92q (ninS (own_ne (by omega)) nin0))
  have f114 : Exa Z T92.heap b1 "com/example/orderly_storefront/orderlystorefront/order/OrderLine" := (((((f26.ext E47).ext E51).keep K67q).ext E85).keep K92q)
  obtain ⟨cq113, kq113, q113a, q113b, q113c⟩ := isOf hZ rfl f114
  obtain ⟨_, _, ⟨T113, L113, k113, n113⟩, -, X113, ⟨Lc113, hQ113, l113, y113, z113⟩, st113⟩ := X92.virtualBack hx (y := (⟨"com/example/orderly_storefront/orderlystorefront/order/OrderLine", "lineTotal", "()J"⟩ : MethodName)) (z := (⟨"com/example/orderly_storefront/orderlystorefront/order/OrderLine", "lineTotal", "()J"⟩ : MethodName)) hown (mvT hZ (hw _ (List.mem_of_getElem? (i := 40) rfl))) (mvT hZ (hw _ (List.mem_of_getElem? (i := 41) rfl))) (notFace_of_selects (args := #[]) (mvT hZ (hw _ (List.mem_of_getElem? (i := 43) rfl)))) (mvT hZ (hw _ (List.mem_of_getElem? (i := 43) rfl))) (mvT hZ (hw _ (List.mem_of_getElem? (i := 42) rfl))) (by decide) (backOf (W := 0) (own_rm4 l Z a0 hw [] b1 v41 v43 T92.heap n0 (by omega) (own_t0_0 p_1 p_2 v41 v43 hdv41 hdv43) (own_t0_1 p_1 v41 hdv41) f111 f112) hZ (hw _ (List.mem_of_getElem? (i := 44) rfl)) (hw _ (List.mem_of_getElem? (i := 2) rfl)) (by decide) (by decide)) q113a q113c (g := (mkF m 99 #[.val (.int p_1), .val (.int p_2), .val (.int p_3), .val (.long q_4), .second, .val (.long (p_1.toInt64)), .second, .val (.long (p_2.toInt64)), .second, .val (.ref b1), .val (.long v45), .second, .val (.long v46), .second, .val (.ref b47), .val (.ref b85), .val (.long v110), .second] [(.ref b1)])) rfl (by rw [hml]; rfl) (Steps.refl _) (argsL := []) (rest := []) (lenOf own_pd4 rfl) rfl (by show 2 * 0 + _ ≤ _; exact Nat.le_of_eq rfl) (hb hby at_99) (fun _ _ => ⟨rfl, rfl, (by show k92 + _ ≤ _; rw [y92]; decide), (by show n92 + _ ≤ _; rw [z92]; decide)⟩)
  dsimp only [Pt.U, Pt.locs, Pt.cells, Pt.slots] at X113 l113 y113 z113 st113 hQ113
  have y113 : k113 = 13 := own_addeq y113 (congrArg (fun q => q) y92) rfl
  have z113 : n113 = 61 := own_addeq z113 (congrArg (fun q => q) z92) rfl
  obtain ⟨r115, rfl, N113q, hr_r115, e113⟩ := hQ113
  have N113 : Fr n0 L113 := by rw [l113]; exact Fr.app N92 N113q
  refine own_go (fun _ k => st113.trans k) ?_
  show own_Go _ _ _ _ T113 (mkF m 102 #[.val (.int p_1), .val (.int p_2), .val (.int p_3), .val (.long q_4), .second, .val (.long (p_1.toInt64)), .second, .val (.long (p_2.toInt64)), .second, .val (.ref b1), .val (.long v45), .second, .val (.long v46), .second, .val (.ref b47), .val (.ref b85), .val (.long v110), .second] [(.long r115)])
  refine own_go (fun _ k => XS.lload X113.here hx rfl (hb hby at_102) rfl k) ?_
  show own_Go _ _ _ _ T113 (mkF m 104 #[.val (.int p_1), .val (.int p_2), .val (.int p_3), .val (.long q_4), .second, .val (.long (p_1.toInt64)), .second, .val (.long (p_2.toInt64)), .second, .val (.ref b1), .val (.long v45), .second, .val (.long v46), .second, .val (.ref b47), .val (.ref b85), .val (.long v110), .second] [(.long (p_1.toInt64)), (.long r115)])
  refine own_go (fun _ k => XS.lload X113.here hx rfl (hb hby at_104) rfl k) ?_
  show own_Go _ _ _ _ T113 (mkF m 106 #[.val (.int p_1), .val (.int p_2), .val (.int p_3), .val (.long q_4), .second, .val (.long (p_1.toInt64)), .second, .val (.long (p_2.toInt64)), .second, .val (.ref b1), .val (.long v45), .second, .val (.long v46), .second, .val (.ref b47), .val (.ref b85), .val (.long v110), .second] [(.long (p_2.toInt64)), (.long (p_1.toInt64)), (.long r115)])
  refine own_go (fun _ k => XS.lmul X113.here hx rfl (hb hby at_106) rfl k) ?_
  show own_Go _ _ _ _ T113 (mkF m 107 #[.val (.int p_1), .val (.int p_2), .val (.int p_3), .val (.long q_4), .second, .val (.long (p_1.toInt64)), .second, .val (.long (p_2.toInt64)), .second, .val (.ref b1), .val (.long v45), .second, .val (.long v46), .second, .val (.ref b47), .val (.ref b85), .val (.long v110), .second] [(.long ((p_1.toInt64) * (p_2.toInt64))), (.long r115)])
  refine own_go (fun _ k => XS.lcmp X113.here hx rfl (hb hby at_107) rfl k) ?_
  show own_Go _ _ _ _ T113 (mkF m 108 #[.val (.int p_1), .val (.int p_2), .val (.int p_3), .val (.long q_4), .second, .val (.long (p_1.toInt64)), .second, .val (.long (p_2.toInt64)), .second, .val (.ref b1), .val (.long v45), .second, .val (.long v46), .second, .val (.ref b47), .val (.ref b85), .val (.long v110), .second] [(.int (lcmpW r115 ((p_1.toInt64) * (p_2.toInt64))))])
  have hc116 : r115 = ((p_1.toInt64) * (p_2.toInt64)) := own_t0_2 p_1 p_2 v41 v43 r115 hdv41 hdv43 hr_r115
  refine own_go (fun _ k => XS.ifNo X113.here hx rfl (hb hby at_108) rfl (Jvm.Free.XT.ll_ne_f hc116) k) ?_
  show own_Go _ _ _ _ T113 (mkF m 111 #[.val (.int p_1), .val (.int p_2), .val (.int p_3), .val (.long q_4), .second, .val (.long (p_1.toInt64)), .second, .val (.long (p_2.toInt64)), .second, .val (.ref b1), .val (.long v45), .second, .val (.long v46), .second, .val (.ref b47), .val (.ref b85), .val (.long v110), .second] [])
  refine own_go (fun _ k => XS.aload X113.here hx rfl (hb hby at_111) rfl rfl k) ?_
  show own_Go _ _ _ _ T113 (mkF m 113 #[.val (.int p_1), .val (.int p_2), .val (.int p_3), .val (.long q_4), .second, .val (.long (p_1.toInt64)), .second, .val (.long (p_2.toInt64)), .second, .val (.ref b1), .val (.long v45), .second, .val (.long v46), .second, .val (.ref b47), .val (.ref b85), .val (.long v110), .second] [(.ref b47)])
  have f117 : Fld Z T92.heap b47 "com/example/orderly_storefront/orderlystorefront/order/OrderLine" "quantity" "J" (.long v45) := ((f74.ext E85).keep K92q (ninS (own_ne (by omega)) nin0))
  have f118 : Fld Z T92.heap b47 "com/example/orderly_storefront/orderlystorefront/order/OrderLine" "unitPrice" "J" (.long v46) := ((f75.ext E85).keep K92q (ninS (own_ne (by omega)) nin0))
  have f120 : Exa Z T92.heap b47 "com/example/orderly_storefront/orderlystorefront/order/OrderLine" := ((f68.ext E85).keep K92q)
  obtain ⟨cq119, kq119, q119a, q119b, q119c⟩ := isOf hZ e113 f120
  obtain ⟨_, _, ⟨T119, L119, k119, n119⟩, -, X119, ⟨Lc119, hQ119, l119, y119, z119⟩, st119⟩ := X113.virtualBack hx (y := (⟨"com/example/orderly_storefront/orderlystorefront/order/OrderLine", "lineTotal", "()J"⟩ : MethodName)) (z := (⟨"com/example/orderly_storefront/orderlystorefront/order/OrderLine", "lineTotal", "()J"⟩ : MethodName)) hown (mvT hZ (hw _ (List.mem_of_getElem? (i := 40) rfl))) (mvT hZ (hw _ (List.mem_of_getElem? (i := 41) rfl))) (notFace_of_selects (args := #[]) (mvT hZ (hw _ (List.mem_of_getElem? (i := 43) rfl)))) (mvT hZ (hw _ (List.mem_of_getElem? (i := 43) rfl))) (mvT hZ (hw _ (List.mem_of_getElem? (i := 42) rfl))) (by decide) (backOf (W := 0) (own_rm4 l Z a0 hw [] b47 v45 v46 T92.heap n0 (by omega) (own_t0_3 p_3 q_4 v45 v46 v110 hdv45 hdv46 hdv110) (own_t0_4 p_3 q_4 v45 v46 v110 hdv45 hdv46 hdv110) f117 f118) hZ (hw _ (List.mem_of_getElem? (i := 44) rfl)) (hw _ (List.mem_of_getElem? (i := 2) rfl)) (by decide) (by decide)) q119a q119c (g := (mkF m 113 #[.val (.int p_1), .val (.int p_2), .val (.int p_3), .val (.long q_4), .second, .val (.long (p_1.toInt64)), .second, .val (.long (p_2.toInt64)), .second, .val (.ref b1), .val (.long v45), .second, .val (.long v46), .second, .val (.ref b47), .val (.ref b85), .val (.long v110), .second] [(.ref b47)])) rfl (by rw [hml]; rfl) (Steps.refl _) (argsL := []) (rest := []) (lenOf own_pd4 rfl) rfl (by show 2 * 0 + _ ≤ _; exact Nat.le_of_eq rfl) (hb hby at_113) (fun _ _ => ⟨rfl, e113, (by show k113 + _ ≤ _; rw [y113]; decide), (by show n113 + _ ≤ _; rw [z113]; decide)⟩)
  dsimp only [Pt.U, Pt.locs, Pt.cells, Pt.slots] at X119 l119 y119 z119 st119 hQ119
  have y119 : k119 = 13 := own_addeq y119 (congrArg (fun q => q) y113) rfl
  have z119 : n119 = 61 := own_addeq z119 (congrArg (fun q => q) z113) rfl
  obtain ⟨r121, rfl, N119q, hr_r121, e119⟩ := hQ119
  have N119 : Fr n0 L119 := by rw [l119]; exact Fr.app N113 N119q
  refine own_go (fun _ k => st119.trans k) ?_
  show own_Go _ _ _ _ T119 (mkF m 116 #[.val (.int p_1), .val (.int p_2), .val (.int p_3), .val (.long q_4), .second, .val (.long (p_1.toInt64)), .second, .val (.long (p_2.toInt64)), .second, .val (.ref b1), .val (.long v45), .second, .val (.long v46), .second, .val (.ref b47), .val (.ref b85), .val (.long v110), .second] [(.long r121)])
  refine own_go (fun _ k => XS.lload X119.here hx rfl (hb hby at_116) rfl k) ?_
  show own_Go _ _ _ _ T119 (mkF m 118 #[.val (.int p_1), .val (.int p_2), .val (.int p_3), .val (.long q_4), .second, .val (.long (p_1.toInt64)), .second, .val (.long (p_2.toInt64)), .second, .val (.ref b1), .val (.long v45), .second, .val (.long v46), .second, .val (.ref b47), .val (.ref b85), .val (.long v110), .second] [(.long v110), (.long r121)])
  refine own_go (fun _ k => XS.lcmp X119.here hx rfl (hb hby at_118) rfl k) ?_
  show own_Go _ _ _ _ T119 (mkF m 119 #[.val (.int p_1), .val (.int p_2), .val (.int p_3), .val (.long q_4), .second, .val (.long (p_1.toInt64)), .second, .val (.long (p_2.toInt64)), .second, .val (.ref b1), .val (.long v45), .second, .val (.long v46), .second, .val (.ref b47), .val (.ref b85), .val (.long v110), .second] [(.int (lcmpW r121 v110))])
  have hc122 : r121 = v110 := own_t0_5 p_3 q_4 v45 v46 v110 r121 hdv45 hdv46 hdv110 hr_r121
  refine own_go (fun _ k => XS.ifNo X119.here hx rfl (hb hby at_119) rfl (Jvm.Free.XT.ll_ne_f hc122) k) ?_
  show own_Go _ _ _ _ T119 (mkF m 122 #[.val (.int p_1), .val (.int p_2), .val (.int p_3), .val (.long q_4), .second, .val (.long (p_1.toInt64)), .second, .val (.long (p_2.toInt64)), .second, .val (.ref b1), .val (.long v45), .second, .val (.long v46), .second, .val (.ref b47), .val (.ref b85), .val (.long v110), .second] [])
  refine own_go (fun _ k => XS.aload X119.here hx rfl (hb hby at_122) rfl rfl k) ?_
  show own_Go _ _ _ _ T119 (mkF m 124 #[.val (.int p_1), .val (.int p_2), .val (.int p_3), .val (.long q_4), .second, .val (.long (p_1.toInt64)), .second, .val (.long (p_2.toInt64)), .second, .val (.ref b1), .val (.long v45), .second, .val (.long v46), .second, .val (.ref b47), .val (.ref b85), .val (.long v110), .second] [(.ref b85)])
  obtain ⟨cq123, kq123, q123a, q123b, q123c⟩ := isOf hZ e119 f93
  obtain ⟨_, _, ⟨T123, L123, k123, n123⟩, -, X123, ⟨Lc123, hQ123, l123, y123, z123⟩, st123⟩ := X119.virtualBack hx (y := (⟨"com/example/orderly_storefront/orderlystorefront/order/OrderLine", "lineTotal", "()J"⟩ : MethodName)) (z := (⟨"com/example/orderly_storefront/orderlystorefront/order/OrderLine", "lineTotal", "()J"⟩ : MethodName)) hown (mvT hZ (hw _ (List.mem_of_getElem? (i := 40) rfl))) (mvT hZ (hw _ (List.mem_of_getElem? (i := 41) rfl))) (notFace_of_selects (args := #[]) (mvT hZ (hw _ (List.mem_of_getElem? (i := 43) rfl)))) (mvT hZ (hw _ (List.mem_of_getElem? (i := 43) rfl))) (mvT hZ (hw _ (List.mem_of_getElem? (i := 42) rfl))) (by decide) (backOf (W := 0) (own_rm4 l Z a0 hw [] b85 v46 v45 T92.heap n0 (by omega) (own_t0_6 p_3 q_4 v45 v46 v110 r121 hdv45 hdv46 hdv110 hr_r121 hc122) (own_t0_7 p_3 q_4 v45 v46 v110 r121 hdv45 hdv46 hdv110 hr_r121 hc122) f99 f100) hZ (hw _ (List.mem_of_getElem? (i := 44) rfl)) (hw _ (List.mem_of_getElem? (i := 2) rfl)) (by decide) (by decide)) q123a q123c (g := (mkF m 124 #[.val (.int p_1), .val (.int p_2), .val (.int p_3), .val (.long q_4), .second, .val (.long (p_1.toInt64)), .second, .val (.long (p_2.toInt64)), .second, .val (.ref b1), .val (.long v45), .second, .val (.long v46), .second, .val (.ref b47), .val (.ref b85), .val (.long v110), .second] [(.ref b85)])) rfl (by rw [hml]; rfl) (Steps.refl _) (argsL := []) (rest := []) (lenOf own_pd4 rfl) rfl (by show 2 * 0 + _ ≤ _; exact Nat.le_of_eq rfl) (hb hby at_124) (fun _ _ => ⟨rfl, e119, (by show k119 + _ ≤ _; rw [y119]; decide), (by show n119 + _ ≤ _; rw [z119]; decide)⟩)
  dsimp only [Pt.U, Pt.locs, Pt.cells, Pt.slots] at X123 l123 y123 z123 st123 hQ123
  have y123 : k123 = 13 := own_addeq y123 (congrArg (fun q => q) y119) rfl
  have z123 : n123 = 61 := own_addeq z123 (congrArg (fun q => q) z119) rfl
  obtain ⟨r124, rfl, N123q, hr_r124, e123⟩ := hQ123
  have N123 : Fr n0 L123 := by rw [l123]; exact Fr.app N119 N123q
  refine own_go (fun _ k => st123.trans k) ?_
  show own_Go _ _ _ _ T123 (mkF m 127 #[.val (.int p_1), .val (.int p_2), .val (.int p_3), .val (.long q_4), .second, .val (.long (p_1.toInt64)), .second, .val (.long (p_2.toInt64)), .second, .val (.ref b1), .val (.long v45), .second, .val (.long v46), .second, .val (.ref b47), .val (.ref b85), .val (.long v110), .second] [(.long r124)])
  refine own_go (fun _ k => XS.lload X123.here hx rfl (hb hby at_127) rfl k) ?_
  show own_Go _ _ _ _ T123 (mkF m 129 #[.val (.int p_1), .val (.int p_2), .val (.int p_3), .val (.long q_4), .second, .val (.long (p_1.toInt64)), .second, .val (.long (p_2.toInt64)), .second, .val (.ref b1), .val (.long v45), .second, .val (.long v46), .second, .val (.ref b47), .val (.ref b85), .val (.long v110), .second] [(.long v110), (.long r124)])
  refine own_go (fun _ k => XS.lcmp X123.here hx rfl (hb hby at_129) rfl k) ?_
  show own_Go _ _ _ _ T123 (mkF m 130 #[.val (.int p_1), .val (.int p_2), .val (.int p_3), .val (.long q_4), .second, .val (.long (p_1.toInt64)), .second, .val (.long (p_2.toInt64)), .second, .val (.ref b1), .val (.long v45), .second, .val (.long v46), .second, .val (.ref b47), .val (.ref b85), .val (.long v110), .second] [(.int (lcmpW r124 v110))])
  have hc125 : r124 = v110 := own_t0_8 p_3 q_4 v45 v46 v110 r121 r124 hdv45 hdv46 hdv110 hr_r121 hc122 hr_r124
  refine own_go (fun _ k => XS.ifNo X123.here hx rfl (hb hby at_130) rfl (Jvm.Free.XT.ll_ne_f hc125) k) ?_
  show own_Go _ _ _ _ T123 (mkF m 133 #[.val (.int p_1), .val (.int p_2), .val (.int p_3), .val (.long q_4), .second, .val (.long (p_1.toInt64)), .second, .val (.long (p_2.toInt64)), .second, .val (.ref b1), .val (.long v45), .second, .val (.long v46), .second, .val (.ref b47), .val (.ref b85), .val (.long v110), .second] [])
  refine own_go (fun _ k => XS.iconst X123.here hx rfl (hb hby at_133) k) ?_
  show own_Go _ _ _ _ T123 (mkF m 134 #[.val (.int p_1), .val (.int p_2), .val (.int p_3), .val (.long q_4), .second, .val (.long (p_1.toInt64)), .second, .val (.long (p_2.toInt64)), .second, .val (.ref b1), .val (.long v45), .second, .val (.long v46), .second, .val (.ref b47), .val (.ref b85), .val (.long v110), .second] [(.int (1 : Int32))])
  refine own_go (fun _ k => XS.goto X123.here hx rfl (pc0 := 134) (pc' := 138) rfl (hb hby at_134) (by decide) (by decide) k) ?_
  show own_Go _ _ _ _ T123 (mkF m 138 #[.val (.int p_1), .val (.int p_2), .val (.int p_3), .val (.long q_4), .second, .val (.long (p_1.toInt64)), .second, .val (.long (p_2.toInt64)), .second, .val (.ref b1), .val (.long v45), .second, .val (.long v46), .second, .val (.ref b47), .val (.ref b85), .val (.long v110), .second] [(.int (1 : Int32))])
  obtain ⟨fs, hr, hrun, hended, hRW⟩ := X123.leaveW hS51 (by rw [e123]; omega) (v := some (.int (1 : Int32))) (fun h => by rw [Bd.returns] at h; cases h)
  refine ⟨_, _, retOut X123 hx Bd.returns rfl (Or.inl ⟨rfl, Or.inr (Or.inl rfl), _, rfl⟩) (hb hby at_138) hr, hrun, hended, _, _, rfl, ?_, own_monoW hRW (by rw [y123]; decide) (by rw [z123]; decide)⟩
  show own_Q0 Z p_1 p_2 p_3 q_4 h0 n0 _ T123.heap _
  rw [e123]
  exact ⟨rfl, N123⟩
set_option maxRecDepth 65536 in
set_option maxHeartbeats 40000000 in
theorem comes_1 {Post : Tables → Env → Array Value → State → Outcome → State → Prop} (hpost : ∀ tb e args s v u, (limb_1_1.after args s (.returned v) u = true ∧ limb_1_2.after args s (.returned v) u = true ∧ True) → ReturnedEndW s (.returned v) u (Jvm.fieldLocs frame_1_writes args s ++ Jvm.arrayLocs frame_1_arrays args s ++ Jvm.staticLocs frame_1_statics s) 24 5248 → Post tb e args s (.returned v) u) :
    ArmFor flags0 classFile x code maxLocals ret World_1 tables_1 room_1 Calls_1 rest_1 Pre_1 Post := by
  intro l hfl _ _ p e ha hc hk s m args below hf hA hF happ hP
  obtain ⟨hcalls, hrest, hpre⟩ := hP
  obtain ⟨-, -, -, hnamed, -, -, -, hat⟩ := (Spec.applies_iff hf).mp happ
  obtain ⟨hg, hn⟩ := and_e (Cond.before_iff.mp (show (Jvm.Cond.and given_1 narrow_1).before args s = true from hpre))
  obtain ⟨g1, g2⟩ := and_e hg
  obtain ⟨g3, g4⟩ := and_e g2
  obtain ⟨g5, g6⟩ := and_e g4
  obtain ⟨g7, g8⟩ := and_e g6
  obtain ⟨w0, w1, w2, w3, rfl⟩ : ∃ w0 w1 w2 w3 : Value, args = #[w0, w1, w2, w3] := by
    have hs : args.size = 4 := by simpa [Cond.value, given_1] using g1
    obtain ⟨L⟩ := args
    match L, hs with
    | [w0, w1, w2, w3], _ => exact ⟨w0, w1, w2, w3, rfl⟩
  have hw := fun d (hd : d ∈ tables_1) => atoms_spec (ws := Jvm.Cond.code x code maxLocals ret :: tables_1) hat d (List.mem_cons_of_mem _ hd)
  have hfit : Fit s := fun {y c} hc i hi => by
    obtain ⟨ha, rfl⟩ := Array.getElem?_eq_some_iff.mp hc
    have q := List.all_eq_true.mp ((Array.all_eq_true_iff_forall_mem.mp hF) _ (Array.getElem_mem ha)) i (List.mem_range.mpr hi)
    simpa [Array.getElem?_eq_getElem hi] using q
  obtain ⟨i0, ei0⟩ := is_v g3
  obtain rfl : w0 = (.int i0) := Option.some.inj ei0
  obtain ⟨i1, ei1⟩ := is_v g5
  obtain rfl : w1 = (.int i1) := Option.some.inj ei1
  obtain ⟨i2, ei2⟩ := is_v g7
  obtain rfl : w2 = (.int i2) := Option.some.inj ei2
  obtain ⟨i3, ei3⟩ := isL_v g8
  obtain rfl : w3 = (.long i3) := Option.some.inj ei3
  obtain ⟨n, o, h1, h2, h3, _, L, rfl, ⟨rfl, N⟩, hq⟩ := own_rm0 l s _ hw tables_1 i0 i1 i2 i3  s.heap s.heap.size (Nat.le_refl _)  p e ha hc hk s m _ below hf ((Spec.applies_iff_loose hf).mp happ).1 ⟨rfl, State.Warmed39.refl s, rfl⟩ trivial
  refine ⟨n, _, h1, h2, h3, hpost _ _ _ _ _ _ ⟨Cond.after_iff.mpr rfl, Cond.after_iff.mpr (eq_i res_at (Term.int_eval (1)) rfl), trivial⟩ ⟨hq.1, hq.2.1, hq.2.2.1, (hq.2.2.2.sift fun y hy => Or.inr (N y hy)).mono (by decide) (by decide)⟩⟩
theorem main_1_1 : Claimed_1_1 := comes_1 fun _ _ _ _ _ _ h hF => ⟨h.1, hF⟩
theorem main_1_2 : Claimed_1_2 := comes_1 fun _ _ _ _ _ _ h hF => ⟨h.2.1, hF⟩
end Jvm.Pilot.@@N@@
namespace Jvm.Pilot.@@N@@
open Jvm Jvm.ClassFile Sem Op Lib Jvm.Free Jvm.Stand Jvm.Pilot.@@N@@.Jvm.D
/-! MADE BY PROGRAM (witnessworld.py) out of the Statement's table words and the real class files: 16 classes; the members and pool entries that the words name. The judged class is class 1, her method 1. -/
namespace start1
open Jvm.ClassFile
def u (s : String) : CpInfo := .utf8 (stringToUtf16 s)
/-- a pool by its gaps: so many unusable entries, then the entry; so many at the end -/
def gap : Nat → List CpInfo → List CpInfo
  | 0, r => r
  | n + 1, r => .unusable :: gap n r
def poolList (es : List (Nat × CpInfo)) (last : Nat) : List CpInfo := es.foldr (fun e r => gap e.1 (e.2 :: r)) (gap last [])
def pool (es : List (Nat × CpInfo)) (last : Nat) : Array CpInfo := ⟨poolList es last⟩
def fileOf (pool : Array CpInfo) (this : Nat) (attrs : Array Attribute := #[]) (ms : Array MethodInfo := #[]) (fl : Nat := 33) (sup : Nat := 0) (ifs : Array Nat := #[]) (fds : Array FieldInfo := #[]) : ClassFile where
  minorVersion := 0
  majorVersion := 65
  constantPool := pool
  accessFlags := fl
  thisClass := this
  superClass := sup
  interfaces := ifs
  fields := fds
  methods := ms
  attributes := attrs
def plain (name : String) (sup : Option ClassId) : Class where
  name := name
  kind := .ordinary
  loader := none
  accessFlags := 33
  super := sup
  interfaces := #[]
  cf := none
  fields := #[]
  methods := #[]
  instanceTypes := #[]
  staticTypes := #[]
  resolved := #[]
  callSites := []
  init := .initialized
  statics := none
  mirror := none

def pool0 : Array CpInfo := pool [(5, u "<init>"), (0, u "()V"), (1, .class_ 10), (1, u "java/lang/Object")] 113

def k0c0 : Code := { maxStack := 0, maxLocals := 1, code := object_method_1_code, exceptionTable := #[], attributes := #[] }
def k0m0 : Method := { name := "<init>", desc := "()V", sig := { parameters := [], returnType := none }, accessFlags := 1, code := some k0c0 }
/-- java/lang/Object -/
def k0 : Class := { plain "java/lang/Object" none with
  accessFlags := 33
  interfaces := #[]
  cf := some (fileOf pool0 8 #[] #[{ accessFlags := 1, nameIndex := 5, descriptorIndex := 6, attributes := #[] }] 33 0 #[] #[])
  fields := #[]
  methods := #[k0m0]
  instanceTypes := #[]
  staticTypes := #[]
  resolved := Array.replicate 124 none
  statics := none }

def pool1 : Array CpInfo := pool [(2, .class_ 4), (1, u "java/lang/Object"), (0, u "<init>"), (0, u "()V"), (0, .class_ 8), (0, u "com/example/orderly_storefront/orderlystorefront/order/OrderLine"), (0, .string 10), (0, u "i"), (0, .string 12), (0, u "v"), (0, .string 14), (0, u "p"), (0, .string 16), (0, u "t"), (0, .methodref 7 18), (0, .nameAndType 5 19), (0, u "(Ljava/lang/String;Ljava/lang/String;Ljava/lang/String;Ljava/lang/String;Ljava/lang/String;JJ)V"), (0, .string 21), (0, u "s"), (0, .methodref 7 23), (0, .nameAndType 24 25), (0, u "lineTotal"), (0, u "()J"), (0, .class_ 27), (0, u "com/example/orderly_storefront/orderlystorefront/order/OrderLineLineTotalPinLaw"), (2, u "law"), (0, u "(IIIJ)Z")] 3

def k1m0 : Method := { name := "<init>", desc := "()V", sig := { parameters := [], returnType := none }, accessFlags := 1, code := none }
def k1c1 : Code := { maxStack := 11, maxLocals := 18, code := code, exceptionTable := #[], attributes := #[] }
def k1m1 : Method := { name := "law", desc := "(IIIJ)Z", sig := { parameters := [.int, .int, .int, .long], returnType := some .boolean }, accessFlags := 9, code := some k1c1 }
/-- com/example/orderly_storefront/orderlystorefront/order/OrderLineLineTotalPinLaw -/
def k1 : Class := { plain "com/example/orderly_storefront/orderlystorefront/order/OrderLineLineTotalPinLaw" (some 0) with
  accessFlags := 49
  interfaces := #[]
  cf := some (fileOf pool1 26 #[] #[{ accessFlags := 1, nameIndex := 5, descriptorIndex := 6, attributes := #[] }, { accessFlags := 9, nameIndex := 30, descriptorIndex := 31, attributes := #[] }] 49 2 #[] #[])
  fields := #[]
  methods := #[k1m0, k1m1]
  instanceTypes := #[]
  staticTypes := #[]
  resolved := Array.replicate 35 none
  statics := none }

def pool2 : Array CpInfo := pool [(1, .methodref 2 3), (0, .class_ 4), (0, .nameAndType 5 6), (0, u "java/lang/Object"), (0, u "<init>"), (0, u "()V"), (0, .class_ 8), (0, u "java/lang/Record")] 13

def k2c0 : Code := { maxStack := 1, maxLocals := 1, code := jdk_30_method_1_code, exceptionTable := #[], attributes := #[] }
def k2m0 : Method := { name := "<init>", desc := "()V", sig := { parameters := [], returnType := none }, accessFlags := 4, code := some k2c0 }
/-- java/lang/Record -/
def k2 : Class := { plain "java/lang/Record" (some 0) with
  accessFlags := 1057
  interfaces := #[]
  cf := some (fileOf pool2 7 #[] #[{ accessFlags := 4, nameIndex := 5, descriptorIndex := 6, attributes := #[] }] 1057 2 #[] #[])
  fields := #[]
  methods := #[k2m0]
  instanceTypes := #[]
  staticTypes := #[]
  resolved := Array.replicate 22 none
  statics := none }

def pool3 : Array CpInfo := pool [(1, .methodref 2 3), (0, .class_ 4), (0, .nameAndType 5 6), (0, u "java/lang/Record"), (0, u "<init>"), (0, u "()V"), (0, .fieldref 8 9), (0, .class_ 10), (0, .nameAndType 11 12), (0, u "com/example/orderly_storefront/orderlystorefront/order/OrderLine"), (0, u "id"), (0, u "Ljava/lang/String;"), (0, .fieldref 8 14), (0, .nameAndType 15 12), (0, u "variantId"), (0, .fieldref 8 17), (0, .nameAndType 18 12), (0, u "sku"), (0, .fieldref 8 20), (0, .nameAndType 21 12), (0, u "productTitle"), (0, .fieldref 8 23), (0, .nameAndType 24 12), (0, u "variantTitle"), (0, .fieldref 8 26), (0, .nameAndType 27 28), (0, u "quantity"), (0, u "J"), (0, .fieldref 8 30), (0, .nameAndType 31 28), (0, u "unitPrice"), (0, .methodref 33 34), (0, .class_ 35), (0, .nameAndType 36 37), (0, u "java/lang/Math"), (0, u "multiplyExact"), (0, u "(JJ)J"), (12, u "(Ljava/lang/String;Ljava/lang/String;Ljava/lang/String;Ljava/lang/String;Ljava/lang/String;JJ)V"), (3, u "lineTotal"), (0, u "()J")] 29

def k3c0 : Code := { maxStack := 3, maxLocals := 10, code := prog_38_method_1_code, exceptionTable := #[], attributes := #[] }
def k3m0 : Method := { name := "<init>", desc := "(Ljava/lang/String;Ljava/lang/String;Ljava/lang/String;Ljava/lang/String;Ljava/lang/String;JJ)V", sig := { parameters := [(.object "java/lang/String"), (.object "java/lang/String"), (.object "java/lang/String"), (.object "java/lang/String"), (.object "java/lang/String"), .long, .long], returnType := none }, accessFlags := 1, code := some k3c0 }
def k3c1 : Code := { maxStack := 4, maxLocals := 1, code := prog_38_method_2_code, exceptionTable := #[], attributes := #[] }
def k3m1 : Method := { name := "lineTotal", desc := "()J", sig := { parameters := [], returnType := some .long }, accessFlags := 1, code := some k3c1 }
/-- com/example/orderly_storefront/orderlystorefront/order/OrderLine -/
def k3 : Class := { plain "com/example/orderly_storefront/orderlystorefront/order/OrderLine" (some 2) with
  accessFlags := 49
  interfaces := #[]
  cf := some (fileOf pool3 8 #[] #[{ accessFlags := 1, nameIndex := 5, descriptorIndex := 50, attributes := #[] }, { accessFlags := 1, nameIndex := 54, descriptorIndex := 55, attributes := #[] }] 49 2 #[] #[{ accessFlags := 18, nameIndex := 11, descriptorIndex := 12, attributes := #[] }, { accessFlags := 18, nameIndex := 15, descriptorIndex := 12, attributes := #[] }, { accessFlags := 18, nameIndex := 18, descriptorIndex := 12, attributes := #[] }, { accessFlags := 18, nameIndex := 21, descriptorIndex := 12, attributes := #[] }, { accessFlags := 18, nameIndex := 24, descriptorIndex := 12, attributes := #[] }, { accessFlags := 18, nameIndex := 27, descriptorIndex := 28, attributes := #[] }, { accessFlags := 18, nameIndex := 31, descriptorIndex := 28, attributes := #[] }])
  fields := #[{ name := "id", type := (.object "java/lang/String"), accessFlags := 18, slot := 0, constantValue := 0 }, { name := "variantId", type := (.object "java/lang/String"), accessFlags := 18, slot := 1, constantValue := 0 }, { name := "sku", type := (.object "java/lang/String"), accessFlags := 18, slot := 2, constantValue := 0 }, { name := "productTitle", type := (.object "java/lang/String"), accessFlags := 18, slot := 3, constantValue := 0 }, { name := "variantTitle", type := (.object "java/lang/String"), accessFlags := 18, slot := 4, constantValue := 0 }, { name := "quantity", type := .long, accessFlags := 18, slot := 5, constantValue := 0 }, { name := "unitPrice", type := .long, accessFlags := 18, slot := 6, constantValue := 0 }]
  methods := #[k3m0, k3m1]
  instanceTypes := #[(.object "java/lang/String"), (.object "java/lang/String"), (.object "java/lang/String"), (.object "java/lang/String"), (.object "java/lang/String"), .long, .long]
  staticTypes := #[]
  resolved := Array.replicate 85 none
  statics := none }

def pool4 : Array CpInfo := pool [(1, .class_ 2), (0, u "java/io/Serializable"), (0, .class_ 4), (0, u "java/lang/Object")] 2

/-- java/io/Serializable -/
def k4 : Class := { plain "java/io/Serializable" (some 0) with
  accessFlags := 1537
  interfaces := #[]
  cf := some (fileOf pool4 1 #[] #[] 1537 3 #[] #[])
  fields := #[]
  methods := #[]
  instanceTypes := #[]
  staticTypes := #[]
  resolved := Array.replicate 7 none
  statics := none }

def pool5 : Array CpInfo := pool [(1, .class_ 2), (0, u "java/lang/Comparable"), (0, .class_ 4), (0, u "java/lang/Object")] 7

/-- java/lang/Comparable -/
def k5 : Class := { plain "java/lang/Comparable" (some 0) with
  accessFlags := 1537
  interfaces := #[]
  cf := some (fileOf pool5 1 #[] #[] 1537 3 #[] #[])
  fields := #[]
  methods := #[]
  instanceTypes := #[]
  staticTypes := #[]
  resolved := Array.replicate 12 none
  statics := none }

def pool6 : Array CpInfo := pool [(2, .class_ 4), (1, u "java/lang/CharSequence"), (42, .class_ 48), (0, u "java/lang/CharSequence$1CodePointIterator"), (10, .class_ 60), (0, u "java/lang/CharSequence$1CharIterator"), (5, .class_ 67), (0, u "java/lang/Object")] 63

/-- java/lang/CharSequence -/
def k6 : Class := { plain "java/lang/CharSequence" (some 0) with
  accessFlags := 1537
  interfaces := #[]
  cf := some (fileOf pool6 2 #[.nestMembers #[47, 59]] #[] 1537 66 #[] #[])
  fields := #[]
  methods := #[]
  instanceTypes := #[]
  staticTypes := #[]
  resolved := Array.replicate 131 none
  statics := none }

def pool7 : Array CpInfo := pool [(1, .class_ 2), (0, u "java/lang/constant/Constable"), (0, .class_ 4), (0, u "java/lang/Object")] 6

/-- java/lang/constant/Constable -/
def k7 : Class := { plain "java/lang/constant/Constable" (some 0) with
  accessFlags := 1537
  interfaces := #[]
  cf := some (fileOf pool7 1 #[] #[] 1537 3 #[] #[])
  fields := #[]
  methods := #[]
  instanceTypes := #[]
  staticTypes := #[]
  resolved := Array.replicate 11 none
  statics := none }

def pool8 : Array CpInfo := pool [(1, .class_ 2), (0, u "java/lang/constant/ConstantDesc"), (0, .class_ 4), (0, u "java/lang/Object")] 32

/-- java/lang/constant/ConstantDesc -/
def k8 : Class := { plain "java/lang/constant/ConstantDesc" (some 0) with
  accessFlags := 1537
  interfaces := #[]
  cf := some (fileOf pool8 1 #[] #[] 1537 3 #[] #[])
  fields := #[]
  methods := #[]
  instanceTypes := #[]
  staticTypes := #[]
  resolved := Array.replicate 37 none
  statics := none }

def pool9 : Array CpInfo := pool [(2, .class_ 4), (1, u "java/lang/Object"), (0, u "<init>"), (0, u "()V"), (3, .class_ 12), (1, u "java/lang/String"), (0, u "value"), (0, u "[B"), (2, u "coder"), (0, u "B"), (2, u "hash"), (0, u "I"), (2, u "hashIsZero"), (0, u "Z"), (13, u "COMPACT_STRINGS"), (534, .class_ 576), (0, u "java/lang/CharSequence"), (22, u "CASE_INSENSITIVE_ORDER"), (0, u "Ljava/util/Comparator;"), (500, u "serialPersistentFields"), (0, u "[Ljava/io/ObjectStreamField;"), (0, .class_ 1104), (0, u "java/lang/String$CaseInsensitiveComparator"), (1, .class_ 1107), (0, u "java/io/Serializable"), (0, .class_ 1109), (0, u "java/lang/Comparable"), (0, .class_ 1111), (0, u "java/lang/constant/Constable"), (0, .class_ 1113), (0, u "java/lang/constant/ConstantDesc"), (2, u "serialVersionUID"), (0, u "J"), (3, u "REPL"), (0, u "C"), (2, u "LATIN1"), (1, u "UTF16")] 323

def k9m0 : Method := { name := "<init>", desc := "()V", sig := { parameters := [], returnType := none }, accessFlags := 1, code := none }
/-- java/lang/String -/
def k9 : Class := { plain "java/lang/String" (some 0) with
  accessFlags := 49
  interfaces := #[4, 5, 6, 7, 8]
  cf := some (fileOf pool9 10 #[.nestMembers #[1103]] #[{ accessFlags := 1, nameIndex := 5, descriptorIndex := 6, attributes := #[] }] 49 2 #[1106, 1108, 575, 1110, 1112] #[{ accessFlags := 18, nameIndex := 13, descriptorIndex := 14, attributes := #[] }, { accessFlags := 18, nameIndex := 17, descriptorIndex := 18, attributes := #[] }, { accessFlags := 2, nameIndex := 21, descriptorIndex := 22, attributes := #[] }, { accessFlags := 2, nameIndex := 25, descriptorIndex := 26, attributes := #[] }, { accessFlags := 26, nameIndex := 1116, descriptorIndex := 1117, attributes := #[] }, { accessFlags := 24, nameIndex := 40, descriptorIndex := 26, attributes := #[] }, { accessFlags := 26, nameIndex := 1101, descriptorIndex := 1102, attributes := #[] }, { accessFlags := 26, nameIndex := 1121, descriptorIndex := 1122, attributes := #[] }, { accessFlags := 25, nameIndex := 599, descriptorIndex := 600, attributes := #[] }, { accessFlags := 24, nameIndex := 1125, descriptorIndex := 18, attributes := #[] }, { accessFlags := 24, nameIndex := 1127, descriptorIndex := 18, attributes := #[] }])
  fields := #[{ name := "value", type := (.array .byte), accessFlags := 18, slot := 0, constantValue := 0 }, { name := "coder", type := .byte, accessFlags := 18, slot := 1, constantValue := 0 }, { name := "hash", type := .int, accessFlags := 2, slot := 2, constantValue := 0 }, { name := "hashIsZero", type := .boolean, accessFlags := 2, slot := 3, constantValue := 0 }, { name := "serialVersionUID", type := .long, accessFlags := 26, slot := 0, constantValue := 0 }, { name := "COMPACT_STRINGS", type := .boolean, accessFlags := 24, slot := 1, constantValue := 0 }, { name := "serialPersistentFields", type := (.array (.object "java/io/ObjectStreamField")), accessFlags := 26, slot := 2, constantValue := 0 }, { name := "REPL", type := .char, accessFlags := 26, slot := 3, constantValue := 0 }, { name := "CASE_INSENSITIVE_ORDER", type := (.object "java/util/Comparator"), accessFlags := 25, slot := 4, constantValue := 0 }, { name := "LATIN1", type := .byte, accessFlags := 24, slot := 5, constantValue := 0 }, { name := "UTF16", type := .byte, accessFlags := 24, slot := 6, constantValue := 0 }]
  methods := #[k9m0]
  instanceTypes := #[(.array .byte), .byte, .int, .boolean]
  staticTypes := #[.long, .boolean, (.array (.object "java/io/ObjectStreamField")), .char, (.object "java/util/Comparator"), .byte, .byte]
  resolved := Array.replicate 1451 none
  statics := none }

def pool10 : Array CpInfo := pool [(1, .class_ 2), (0, u "java/lang/Math"), (1, .class_ 6), (1, u "java/lang/Object"), (0, u "<init>"), (0, u "()V"), (89, .class_ 100), (1, u "java/lang/Math$RandomNumberGeneratorHolder"), (19, u "multiplyExact"), (0, u "(JJ)J"), (0, .methodref 1 123), (0, .nameAndType 124 125), (0, u "abs"), (0, u "(J)J"), (2, .long 9223372036854775808), (43, u "negativeZeroFloatBits"), (0, u "J"), (2, u "negativeZeroDoubleBits"), (68, u "$assertionsDisabled"), (0, u "Z"), (91, u "twoToTheDoubleScaleDown"), (0, u "D"), (4, u "twoToTheDoubleScaleUp"), (9, u "E"), (3, u "PI"), (2, u "TAU"), (2, u "DEGREES_TO_RADIANS"), (0, u "RADIANS_TO_DEGREES")] 94

def k10m0 : Method := { name := "<init>", desc := "()V", sig := { parameters := [], returnType := none }, accessFlags := 2, code := none }
def k10c1 : Code := { maxStack := 4, maxLocals := 10, code := jdk_29_method_30_code, exceptionTable := #[], attributes := #[] }
def k10m1 : Method := { name := "multiplyExact", desc := "(JJ)J", sig := { parameters := [.long, .long], returnType := some .long }, accessFlags := 9, code := some k10c1 }
def k10c2 : Code := { maxStack := 4, maxLocals := 2, code := jdk_29_method_61_code, exceptionTable := #[], attributes := #[] }
def k10m2 : Method := { name := "abs", desc := "(J)J", sig := { parameters := [.long], returnType := some .long }, accessFlags := 9, code := some k10c2 }
/-- java/lang/Math -/
def k10 : Class := { plain "java/lang/Math" (some 0) with
  accessFlags := 49
  interfaces := #[]
  cf := some (fileOf pool10 1 #[.nestMembers #[98]] #[{ accessFlags := 2, nameIndex := 7, descriptorIndex := 8, attributes := #[] }, { accessFlags := 9, nameIndex := 120, descriptorIndex := 121, attributes := #[] }, { accessFlags := 9, nameIndex := 124, descriptorIndex := 125, attributes := #[] }] 49 4 #[] #[{ accessFlags := 25, nameIndex := 354, descriptorIndex := 339, attributes := #[] }, { accessFlags := 25, nameIndex := 358, descriptorIndex := 339, attributes := #[] }, { accessFlags := 25, nameIndex := 361, descriptorIndex := 339, attributes := #[] }, { accessFlags := 26, nameIndex := 364, descriptorIndex := 339, attributes := #[] }, { accessFlags := 26, nameIndex := 365, descriptorIndex := 339, attributes := #[] }, { accessFlags := 26, nameIndex := 172, descriptorIndex := 173, attributes := #[] }, { accessFlags := 26, nameIndex := 176, descriptorIndex := 173, attributes := #[] }, { accessFlags := 8, nameIndex := 344, descriptorIndex := 339, attributes := #[] }, { accessFlags := 8, nameIndex := 338, descriptorIndex := 339, attributes := #[] }, { accessFlags := 4120, nameIndex := 245, descriptorIndex := 246, attributes := #[] }])
  fields := #[{ name := "E", type := .double, accessFlags := 25, slot := 0, constantValue := 0 }, { name := "PI", type := .double, accessFlags := 25, slot := 1, constantValue := 0 }, { name := "TAU", type := .double, accessFlags := 25, slot := 2, constantValue := 0 }, { name := "DEGREES_TO_RADIANS", type := .double, accessFlags := 26, slot := 3, constantValue := 0 }, { name := "RADIANS_TO_DEGREES", type := .double, accessFlags := 26, slot := 4, constantValue := 0 }, { name := "negativeZeroFloatBits", type := .long, accessFlags := 26, slot := 5, constantValue := 0 }, { name := "negativeZeroDoubleBits", type := .long, accessFlags := 26, slot := 6, constantValue := 0 }, { name := "twoToTheDoubleScaleUp", type := .double, accessFlags := 8, slot := 7, constantValue := 0 }, { name := "twoToTheDoubleScaleDown", type := .double, accessFlags := 8, slot := 8, constantValue := 0 }, { name := "$assertionsDisabled", type := .boolean, accessFlags := 4120, slot := 9, constantValue := 0 }]
  methods := #[k10m0, k10m1, k10m2]
  instanceTypes := #[]
  staticTypes := #[.double, .double, .double, .double, .double, .long, .long, .double, .double, .boolean]
  resolved := Array.replicate 460 none
  statics := none }

def pool11 : Array CpInfo := pool [(1, u "java/lang/Cloneable"), (0, .class_ 1), (0, u "java/lang/Object"), (0, .class_ 3)] 3

/-- java/lang/Cloneable -/
def k11 : Class := { plain "java/lang/Cloneable" (some 0) with
  accessFlags := 1537
  interfaces := #[]
  cf := some (fileOf pool11 2 #[] #[] 1537 4 #[] #[])
  fields := #[]
  methods := #[]
  instanceTypes := #[]
  staticTypes := #[]
  resolved := Array.replicate 8 none
  statics := none }

/-- the primitive byte -/
def k12 : Class := { plain "byte" none with kind := .primitive 'B', accessFlags := 0x411 }
/-- [B -/
def k13 : Class := { plain "[B" (some 0) with kind := .array 12 .byte, interfaces := #[11, 4], accessFlags := 1041 }

/-- the primitive int -/
def k14 : Class := { plain "int" none with kind := .primitive 'I', accessFlags := 0x411 }
/-- [I -/
def k15 : Class := { plain "[I" (some 0) with kind := .array 14 .int, interfaces := #[11, 4], accessFlags := 1041 }

def heap : Heap := #[]
def classes : Array Class := #[k0, k1, k2, k3, k4, k5, k6, k7, k8, k9, k10, k11, k12, k13, k14, k15]
def interned : List (Array UInt16 × Addr) := []
def slotsUsed : Nat := 0
def theMethod : MethodId := ⟨1, 1⟩
def args0 : Array Value := #[.int 1, .int 2, .int 3, .long 4]
def aboutOver (below : List Frame) : State where
  vm := { classes := classes, interned := interned.toArray }
  heap := heap
  slotsUsed := slotsUsed
  threads := #[{ frames := .invoking theMethod args0 :: below }]
def below0 : List Frame := [.native { method := ⟨0, 0⟩, args := #[] }]
def about1 : State := aboutOver below0
def p0 : Program := .bare "" "" ""
def e0 : Env := launch0.env 0 0 0
theorem w_frames : about1.frames = Frame.invoking theMethod args0 :: below0 := rfl
set_option maxRecDepth 65536 in
theorem w_args : argsFit about1.vm theMethod args0 = true := by decide +kernel
set_option maxRecDepth 65536 in
theorem w_heap : heapFits about1 = true := by decide +kernel
set_option maxRecDepth 65536 in
theorem w_runnable : about1.curStatus? = some .runnable := by decide +kernel
set_option maxRecDepth 65536 in
theorem w_alone : about1.alone = true := by decide +kernel
set_option maxRecDepth 65536 in
theorem w_named : about1.methodNamed? x = some theMethod := by decide +kernel
set_option maxRecDepth 65536 in
theorem w_hears : about1.hears theMethod below0 = true := by decide +kernel
set_option maxRecDepth 65536 in
theorem w_ripe : about1.ripe theMethod args0 below0 = true := by decide +kernel
theorem w_running : about1.status = .running := rfl
set_option maxRecDepth 65536 in
theorem w_room : about1.hasRoom e0.platform room_1 = true :=
  launch0.hasRoom_least _ room_1 (by decide +kernel) (by decide +kernel) (by decide +kernel) (by decide +kernel) (by decide +kernel) (by decide +kernel)
theorem allAtoms_all (ts : List Jvm.Cond) (a : Array Jvm.Value) (st : Jvm.State) : (allAtoms ts).before a st = ts.all (fun c => c.before a st) := by
  induction ts with
  | nil => rfl
  | cons c t ih =>
    show (Jvm.Cond.and c (allAtoms t)).before a st = _
    rw [Jvm.Cond.before_and, ih, List.all_cons]
def words1 : List Jvm.Cond := Jvm.Cond.code x code maxLocals ret :: tables_1
/-- a 'code' word, met by the world's own term for the bytes: nothing is compared byte by byte -/
theorem code_word {y : MethodName} {bytes : ByteArray} {mx : Nat} {rt : Option FieldType} {a : Array Value} {s : State} {m : MethodId} {meth : Method} {c : Code} (h1 : s.methodNamed? y = some m) (h2 : s.vm.method? m = some meth) (h3 : meth.code = some c) (h4 : c.code = bytes)
    (h5 : (c.maxLocals == mx && c.exceptionTable.isEmpty && decide (c.maxStack ≤ mostOperands) && decide (meth.sig.returnType = rt) && !meth.locks && decide (parseMethodDescriptor y.desc = some meth.sig)) = true) : (Jvm.Cond.code y bytes mx rt).before a s = true := by
  simp only [Bool.and_eq_true, beq_iff_eq, Bool.not_eq_true', decide_eq_true_eq] at h5
  obtain ⟨⟨⟨⟨⟨g1, g2⟩, g3⟩, g4⟩, g5⟩, g6⟩ := h5
  simp [Cond.before, Cond.holds, Cond.value, h1, h2, h3, h4, g1, g2, g3, g4, g5, g6]
def isCode : Jvm.Cond → Bool
  | .code _ _ _ _ => true
  | _ => false
theorem all_split {L : List Jvm.Cond} {P : Jvm.Cond → Bool} (h1 : L.all (fun c => isCode c || P c) = true) (h2 : ∀ c ∈ L.filter isCode, P c = true) : L.all P = true := by
  refine List.all_eq_true.mpr fun c hc => ?_
  have h := List.all_eq_true.mp h1 c hc
  rcases Bool.eq_false_or_eq_true (isCode c) with hi | hi
  · exact h2 c (List.mem_filter.mpr ⟨hc, hi⟩)
  · simpa [hi] using h
set_option maxRecDepth 65536 in
theorem w_c0 : (Jvm.Cond.code x code maxLocals ret).before args0 about1 = true := code_word (m := ⟨1, 1⟩) (meth := k1m1) (c := k1c1) (by decide +kernel) rfl rfl rfl (by decide +kernel)
set_option maxRecDepth 65536 in
theorem w_c1 : (Jvm.Cond.code ({ cls := "com/example/orderly_storefront/orderlystorefront/order/OrderLine", name := "<init>", desc := "(Ljava/lang/String;Ljava/lang/String;Ljava/lang/String;Ljava/lang/String;Ljava/lang/String;JJ)V" } : Jvm.MethodName) prog_38_method_1_code (10 : Nat) (Option.none : Option Jvm.ClassFile.FieldType)).before args0 about1 = true := code_word (m := ⟨3, 0⟩) (meth := k3m0) (c := k3c0) (by decide +kernel) rfl rfl rfl (by decide +kernel)
set_option maxRecDepth 65536 in
theorem w_c2 : (Jvm.Cond.code ({ cls := "java/lang/Record", name := "<init>", desc := "()V" } : Jvm.MethodName) jdk_30_method_1_code (1 : Nat) (Option.none : Option Jvm.ClassFile.FieldType)).before args0 about1 = true := code_word (m := ⟨2, 0⟩) (meth := k2m0) (c := k2c0) (by decide +kernel) rfl rfl rfl (by decide +kernel)
set_option maxRecDepth 65536 in
theorem w_c3 : (Jvm.Cond.code ({ cls := "java/lang/Object", name := "<init>", desc := "()V" } : Jvm.MethodName) object_method_1_code (1 : Nat) (Option.none : Option Jvm.ClassFile.FieldType)).before args0 about1 = true := code_word (m := ⟨0, 0⟩) (meth := k0m0) (c := k0c0) (by decide +kernel) rfl rfl rfl (by decide +kernel)
set_option maxRecDepth 65536 in
theorem w_c4 : (Jvm.Cond.code ({ cls := "com/example/orderly_storefront/orderlystorefront/order/OrderLine", name := "lineTotal", desc := "()J" } : Jvm.MethodName) prog_38_method_2_code (1 : Nat) (Option.some Jvm.ClassFile.FieldType.long)).before args0 about1 = true := code_word (m := ⟨3, 1⟩) (meth := k3m1) (c := k3c1) (by decide +kernel) rfl rfl rfl (by decide +kernel)
set_option maxRecDepth 65536 in
theorem w_c5 : (Jvm.Cond.code ({ cls := "java/lang/Math", name := "multiplyExact", desc := "(JJ)J" } : Jvm.MethodName) jdk_29_method_30_code (10 : Nat) (Option.some Jvm.ClassFile.FieldType.long)).before args0 about1 = true := code_word (m := ⟨10, 1⟩) (meth := k10m1) (c := k10c1) (by decide +kernel) rfl rfl rfl (by decide +kernel)
set_option maxRecDepth 65536 in
theorem w_c6 : (Jvm.Cond.code ({ cls := "java/lang/Math", name := "abs", desc := "(J)J" } : Jvm.MethodName) jdk_29_method_61_code (2 : Nat) (Option.some Jvm.ClassFile.FieldType.long)).before args0 about1 = true := code_word (m := ⟨10, 2⟩) (meth := k10m2) (c := k10c2) (by decide +kernel) rfl rfl rfl (by decide +kernel)
def codes1 : List Jvm.Cond := [Jvm.Cond.code x code maxLocals ret, Jvm.Cond.code ({ cls := "com/example/orderly_storefront/orderlystorefront/order/OrderLine", name := "<init>", desc := "(Ljava/lang/String;Ljava/lang/String;Ljava/lang/String;Ljava/lang/String;Ljava/lang/String;JJ)V" } : Jvm.MethodName) prog_38_method_1_code (10 : Nat) (Option.none : Option Jvm.ClassFile.FieldType), Jvm.Cond.code ({ cls := "java/lang/Record", name := "<init>", desc := "()V" } : Jvm.MethodName) jdk_30_method_1_code (1 : Nat) (Option.none : Option Jvm.ClassFile.FieldType), Jvm.Cond.code ({ cls := "java/lang/Object", name := "<init>", desc := "()V" } : Jvm.MethodName) object_method_1_code (1 : Nat) (Option.none : Option Jvm.ClassFile.FieldType), Jvm.Cond.code ({ cls := "com/example/orderly_storefront/orderlystorefront/order/OrderLine", name := "lineTotal", desc := "()J" } : Jvm.MethodName) prog_38_method_2_code (1 : Nat) (Option.some Jvm.ClassFile.FieldType.long), Jvm.Cond.code ({ cls := "java/lang/Math", name := "multiplyExact", desc := "(JJ)J" } : Jvm.MethodName) jdk_29_method_30_code (10 : Nat) (Option.some Jvm.ClassFile.FieldType.long), Jvm.Cond.code ({ cls := "java/lang/Math", name := "abs", desc := "(J)J" } : Jvm.MethodName) jdk_29_method_61_code (2 : Nat) (Option.some Jvm.ClassFile.FieldType.long)]
set_option maxRecDepth 65536 in
theorem codes_eq : words1.filter isCode = codes1 := rfl
theorem w_codes : ∀ c ∈ words1.filter isCode, c.before args0 about1 = true := by
  rw [codes_eq]
  intro c hc
  simp only [codes1, List.mem_cons, List.not_mem_nil, or_false] at hc
  rcases hc with rfl | rfl | rfl | rfl | rfl | rfl | rfl
  · exact w_c0
  · exact w_c1
  · exact w_c2
  · exact w_c3
  · exact w_c4
  · exact w_c5
  · exact w_c6
set_option maxRecDepth 65536 in
theorem w_t1 : (words1.take 24).all (fun c => isCode c || c.before args0 about1) = true := by decide +kernel
set_option maxRecDepth 65536 in
theorem w_t2 : ((words1.drop 24).take 24).all (fun c => isCode c || c.before args0 about1) = true := by decide +kernel
set_option maxRecDepth 65536 in
theorem w_t3 : ((words1.drop 24).drop 24).all (fun c => isCode c || c.before args0 about1) = true := by decide +kernel
theorem w_tables : (allAtoms (Jvm.Cond.code x code maxLocals ret :: tables_1)).before args0 about1 = true := by
  rw [allAtoms_all]
  show words1.all (fun c => c.before args0 about1) = true
  refine all_split ?_ w_codes
  rw [← List.take_append_drop 24 words1, List.all_append, w_t1, ← List.take_append_drop 24 (words1.drop 24), List.all_append, w_t2, w_t3]
  rfl
set_option maxRecDepth 65536 in
theorem w_case : (Jvm.Cond.and given_1 narrow_1).before args0 about1 = true := by decide +kernel
theorem w_applies : (headSpec (Jvm.Cond.code x code maxLocals ret :: tables_1) room_1).applies x e0.platform about1 = true :=
  (Spec.applies_iff w_frames).mpr ⟨w_running, w_runnable, w_alone, w_named, w_hears, w_ripe, w_room, w_tables⟩
theorem atStart : AtStart classFile x code maxLocals ret World_1 tables_1 room_1 Calls_1 rest_1 Pre_1 launch0 p0 e0 about1 theMethod args0 below0 :=
  ⟨lists_1, trivial, launch0.admits_env _ _ _, launch0.least_env, fairChoices_fair.cas, fairChoices_fair.clock, w_frames, w_args, w_heap, w_applies, trivial, trivial, w_case⟩
end start1
theorem witness_1 : WitnessClaimed_1 := ⟨start1.p0, start1.e0, start1.about1, start1.theMethod, start1.args0, start1.below0, start1.atStart⟩
end Jvm.Pilot.@@N@@
