import JvmDerived
import JvmDerived.Pilot.@@N@@Statement
import JvmDerived.Pilot.@@N@@Code
set_option linter.unusedVariables false
set_option linter.unusedSimpArgs false
namespace Jvm.Pilot.@@N@@
open Jvm Jvm.ClassFile Sem Op Lib Jvm.Free Jvm.Stand Jvm.LawKit Jvm.RoadKit Bundle Jvm.Pilot.@@N@@.Jvm.D
def own_Go (tb : Tables) (e : Env) (below : List Frame) (P : State → Outcome → Prop) (T : State) (g : JFrame) : Prop := ∃ t o, Steps tb e below (T.setTop g) t ∧ P t o
theorem own_go {tb : Tables} {e : Env} {below : List Frame} {P : State → Outcome → Prop} {T T' : State} {g g' : JFrame} (k : ∀ target, Steps tb e below (T'.setTop g') target → Steps tb e below (T.setTop g) target) (h : own_Go tb e below P T' g') : own_Go tb e below P T g := by
  obtain ⟨t, o, a, b⟩ := h
  exact ⟨t, o, k t a, b⟩
theorem own_cast {P Q : Prop} (h : P = Q) (p : P) : Q := h ▸ p
def own_upd (f : Nat → Value) (k : Nat) (v : Value) : Nat → Value := fun i => if i = k then v else f i
/-- an array of length z at a, its element i being f i -/
def own_AV (Z : State) (h : Heap) (a : Addr) (ty : FieldType) (z : Int32) (f : Nat → Value) : Prop := ¬ z < 0 ∧ ∃ c : Cell, Arr Z h a c ty ∧ c.slots.size = z.toNatClampNeg ∧ ∀ i, i < c.slots.size → c.slots[i]? = some (f i)
section
variable {Z : State} {h h' : Heap} {a b : Addr} {ty : FieldType} {z j : Int32} {f : Nat → Value} {v w : Value} {sl k : Nat} {ws : List Addr} {cA : ClassId}
theorem own_AV.lt (F : own_AV Z h a ty z f) : a < h.size := by obtain ⟨_, c, A, -⟩ := F; exact A.lt
theorem own_AV.ext (F : own_AV Z h a ty z f) (E : Ext h h') : own_AV Z h' a ty z f := by obtain ⟨q, c, A, r⟩ := F; exact ⟨q, c, A.ext E, r⟩
theorem own_AV.other (F : own_AV Z h b ty z f) (W : Wr h h' a sl v) (q : b ≠ a) : own_AV Z h' b ty z f := by obtain ⟨q1, c, A, r⟩ := F; exact ⟨q1, c, A.other W q, r⟩
theorem own_AV.keep (F : own_AV Z h a ty z f) (K : Keep h h' ws) (q : a ∉ ws) : own_AV Z h' a ty z f := by obtain ⟨q1, c, A, r⟩ := F; exact ⟨q1, c, ⟨K.2.1 a c A.1 q, A.2⟩, r⟩
theorem own_AV.new (A : Arr Z h a (newA cA ty z) ty) (q : ¬ z < 0) : own_AV Z h a ty z (fun _ => defaultValue ty) :=
  ⟨q, _, A, sz_new _ _ _, fun i hi => by
    rw [sz_new] at hi
    simp [newA, hi]⟩
theorem own_AV.set (F : own_AV Z h a ty z f) (W : Wr h h' a j.toNatClampNeg v) (hk : j.toNatClampNeg = k) : own_AV Z h' a ty z (own_upd f k v) := by
  obtain ⟨q, c, A, s, t⟩ := F
  subst hk
  refine ⟨q, _, A.same W, by rw [sz_set]; exact s, fun i hi => ?_⟩
  rw [sz_set] at hi
  by_cases e : i = j.toNatClampNeg
  · subst e; simp [own_upd, Cell.setSlot, hi]
  · simp only [own_upd, if_neg e, Cell.setSlot]
    rw [Array.getElem?_setIfInBounds_ne (Ne.symm e)]; exact t i hi
theorem own_at {c : Cell} (t : ∀ i, i < c.slots.size → c.slots[i]? = some (f i)) (s : c.slots.size = z.toNatClampNeg) (hin : ¬ (j < 0 ∨ c.slots.size ≤ j.toNatClampNeg)) (hk : j.toNatClampNeg = k) (hv : f k = v) : c.slots[j.toNatClampNeg]? = some v := by
  rw [t _ (Nat.lt_of_not_le fun q => hin (Or.inr q)), hk, hv]
theorem own_sta_keep {C n d : String} (F : Sta Z h C n d w) (K : Keep h h' ws) (q : ∀ x ∈ ws, ∀ c : Cell, h[x]? = some c → c.vm.isStatics = false) : Sta Z h' C n d w := by
  obtain ⟨cf, i, k, f, st, cell, h1, h2, h3, h4, h5, h6, h7⟩ := F
  exact ⟨cf, i, k, f, st, cell, h1, h2, h3, h4, K.2.1 st cell h5 (fun m => by rw [q st m cell h5] at h6; cases h6), h6, h7⟩
theorem own_exa_plain {C : String} (F : Exa Z h a C) : ∀ c : Cell, h[a]? = some c → c.vm.isStatics = false := fun c hc => by
  obtain ⟨c1, k, h1, -, -, h4, -⟩ := F; cases h1.symm.trans hc; exact h4
theorem own_AV.plain (F : own_AV Z h a ty z f) : ∀ c : Cell, h[a]? = some c → c.vm.isStatics = false := fun c hc => by
  obtain ⟨_, c1, A, -⟩ := F; cases A.1.symm.trans hc; exact A.plain
end
theorem own_narb {x : Int32} (h : x = 0 ∨ x = 1) : nar .boolean x = x := by rcases h with rfl | rfl <;> rfl
theorem own_exa_ref {args : Array Value} {s : State} {t : Term} {C : String} (hx : (Jvm.Cond.exactly t C).value args s none s [] = some true) : ∃ a, t.eval args s none [] s = some (.ref a) ∧ Exa s s.heap a C := by
  obtain ⟨a', c', cell, k, e1, -⟩ := Cond.exactly_spec (Cond.before_iff.mpr hx)
  exact ⟨a', e1, Exa.start e1 hx⟩
theorem own_eq_int {args : Array Value} {s : State} {t : Term} {k : Int32} (h : (Jvm.Cond.eq t (Jvm.Term.int k)).value args s none s [] = some true) : t.eval args s none [] s = some (.int k) := by
  cases hv : t.eval args s none [] s with
  | none => simp [Cond.value, hv] at h
  | some v => cases v <;> simp [Cond.value, hv, Term.eval] at h <;> simp [h]
theorem own_fld_int {args : Array Value} {s : State} {t : Term} {C n d : String} {a : Addr} {k : Int32} (ev : t.eval args s none [] s = some (.ref a)) (h : (Jvm.Cond.eq (Jvm.Term.field t C n d) (Jvm.Term.int k)).value args s none s [] = some true) : Fld s s.heap a C n d (.int k) :=
  Fld.start ((fld_at ev).symm.trans (own_eq_int h))
theorem own_nar_c (x : Int32) : nar .char (x.toUInt32.toUInt16.toUInt32.toInt32) = x.toUInt32.toUInt16.toUInt32.toInt32 := Value.int.inj (Jvm.Free.XT.narrow_c x)
theorem own_nar_b (x : Int32) : nar .byte (x.toInt8.toInt32) = x.toInt8.toInt32 := Value.int.inj (Jvm.Free.XT.narrow_b x)
theorem own_NSroot {Z : State} {a0 : Array Value} {O K : String} {n : Nat} (w : (Jvm.Cond.noSuperclass O).before a0 Z = true) (wk : (Jvm.Cond.instantiable K n).before a0 Z = true) (hn : O ≠ K) : NS Z O K := by
  obtain ⟨c, k, h1, h2, h3, -, -⟩ := Cond.noSuperclass_spec w
  obtain ⟨t, kt, g1, -⟩ := Cond.instantiable_spec wk
  have ne := ids_ne h1 g1 hn
  refine ⟨c, t, h1, g1, fun fuel => ?_⟩
  cases fuel with
  | zero => rfl
  | succ f => simp [Vm.isSubclassAux, ne, h2, h3]
theorem own_NSno {Z : State} {a0 : Array Value} {C S K : String} {m : Nat} (w : (Jvm.Cond.superclass C S).before a0 Z = true) (wk : (Jvm.Cond.instantiable K m).before a0 Z = true) (n : NS Z C K) (hn : C ≠ K) : ∃ c t, Z.vm.findClass C = some c ∧ Z.vm.findClass K = some t ∧ Z.vm.assignable c t = false := by
  obtain ⟨c, t, h0, g0, n3⟩ := n
  obtain ⟨p, k, kp, h1, h2, h3, h4, h5, -, h7⟩ := Cond.superclass_spec h0 w
  obtain ⟨t', k', g1, g2, g5, g7, -⟩ := Cond.instantiable_spec wk
  cases g0.symm.trans g1
  have g8 : k'.isInterface = false := by
    cases hi : k'.isInterface <;> simp [hi] at g7 ⊢
  have ne := ids_ne h0 g0 hn
  refine ⟨c, t, h0, g0, ?_⟩
  show Z.vm.assignableAux (255 + 1) c t = false
  simp [Vm.assignableAux, ne, h2, g2, h5, g5, g8, Vm.isSubclass, n3]
theorem own_monoW {s t : State} {o : Outcome} {L : List Loc} {k n k' n' : Nat} (h : ReturnedEndW s o t L k n) (hk : k ≤ k') (hn : n ≤ n') : ReturnedEndW s o t L k' n' := ⟨h.1, h.2.1, h.2.2.1, h.2.2.2.mono hk hn⟩
theorem own_ldcSL {p : Program} {l : Launch} {e : Env} {R : Room} {s : State} {vm0 : Vm} {m : MethodId} {args : Array Value} {below : List Frame} {meth : Method} {c : Code} {T : State} {locs : List Loc} {cells slots : Nat} {Z : State} {a0 : Array Value} {h : Heap}
    (X : Stand p l e R (s.setVm vm0) m args below meth c T locs cells slots) (hx : p.tables.exec = Jvm.exec) (hZ : Z.Warmed39 vm0) {own text : String} {index : Nat} (hown : vm0.findClass own = some m.cls) (w : (Jvm.Cond.stringLink own index text).before a0 Z = true) (wS : ∀ a ∈ Bundle.stringAtoms, a.before a0 Z = true)
    (eT : T.heap = h) {k0 : Nat} (hS : s.Since vm0 k0) (hk : k0 ≤ h.size) {g : JFrame} (hg : g.method = m) (hd : decode c.code g.pc = .ok (.ldc index, 2)) {n : Nat} (hn : 4 * text.toList.length ≤ n) (hbig : n ≤ 536870912) (hc : cells + 2 ≤ R.cells) (hl : slots + (n + 4) ≤ R.slots) :
    ∃ (a : Addr) (T' : State) (h' : Heap) (k1 : Nat), Stand p l e R (s.setVm T'.vm) m args below meth c T' locs (cells + 2) (slots + (n + 4)) ∧ T'.heap = h' ∧ Ext h h' ∧ s.Since T'.vm k1 ∧ k1 ≤ h'.size ∧ Z.Warmed39 (s.setVm T'.vm).vm ∧ (s.setVm T'.vm).vm.findClass own = some m.cls ∧ Lit (s.setVm T'.vm) own index a ∧ (s.setVm vm0).Warmed39 T'.vm ∧
      ∀ target, Steps p.tables e below (T'.setTop { g with pc := g.pc + 2, stack := .ref a :: g.stack }) target → Steps p.tables e below (T.setTop g) target := by
  have wS' : ∀ d ∈ Bundle.stringAtoms, d.before args (s.setVm vm0) = true := fun d hd => by
    have q := wS d hd
    simp only [Bundle.stringAtoms, List.mem_cons, List.not_mem_nil, or_false] at hd
    rcases hd with rfl | rfl | rfl | rfl | rfl | rfl | rfl
    · exact mv (s := s.setVm vm0) hZ q
    · exact mv (s := s.setVm vm0) hZ q
    · exact mvA (s := s.setVm vm0) hZ q
    · exact mv (s := s.setVm vm0) hZ q
    · exact mv (s := s.setVm vm0) hZ q
    · exact mv (s := s.setVm vm0) hZ q
    · exact mv (s := s.setVm vm0) hZ q
  obtain ⟨a, T', X', hS', ⟨kk, hkk, hrr⟩, hb, -, st⟩ := X.ldcStringCold hx (own := own) hown (mvS hZ w) wS' hg hd hn hbig hc hl
  subst eT
  have hf : T'.vm.findClass own = some m.cls := by rw [hS'.1.alike.findClass]; exact hown
  exact ⟨a, T', _, _, X', rfl, ext_of hb, hS.trans hS' (Nat.le_trans hk (ext_of hb).1), Nat.le_refl _, State.Warmed39.trans (t := s.setVm vm0) hZ hS'.1, hf, by simp [Lit, State.resolvedAt?, hf, hkk, hrr], hS'.1, st⟩
theorem own_selfsel {Z s : State} {a0 args : Array Value} {y : MethodName} {n : Nat} (hZ : Z.Warmed39 s.vm) (wi : (Jvm.Cond.instantiable y.cls n).before a0 Z = true) (wm : (Jvm.Cond.instanceMethod y).before a0 Z = true) (wp : (Jvm.Cond.privateMethod y).before a0 Z = true) (hy : y.cls ≠ "java/lang/invoke/MethodHandle" ∧ y.cls ≠ "java/lang/invoke/VarHandle") : (Jvm.Cond.selects y.cls y y).before args s = true := by
  obtain ⟨c, k, h1, h2, -, h4, -⟩ := Cond.instantiable_spec (mvT (args := args) hZ wi)
  have g8 : k.isInterface = false := by
    cases hi : k.isInterface <;> simp [hi] at h4 ⊢
  exact selects_self_of_private h1 h2 g8 (Cond.privateMethod_at (mvP hZ wp (args := #[]))) (mvT hZ wm) hy
theorem own_addeq {k a b m n : Nat} (h : k = a + b) (h1 : a = m) (h2 : m + b = n) : k = n := by subst h1; exact h.trans h2
theorem own_lt {a b : Nat} (h : a < b) : a < b := h
theorem own_ne {a b : Nat} (h : a < b ∨ b < a) : a ≠ b := by omega
def own_lts : List Nat → Prop
  | a :: b :: r => a < b ∧ own_lts (b :: r)
  | _ => True

theorem own_pn0 : plainName "java/lang/Record" = true := by first | (simp [plainName, overriddenIn]; done) | decide +kernel
theorem own_pn1 : plainName "java/lang/Number" = true := by first | (simp [plainName, overriddenIn]; done) | decide +kernel
theorem own_pn2 : plainName "com/example/tessera/tessera/FloatType" = true := by first | (simp [plainName, overriddenIn]; done) | decide +kernel
theorem own_pn3 : plainName "java/lang/Double" = true := by first | (simp [plainName, overriddenIn]; done) | decide +kernel
theorem own_pn4 : plainName "com/example/tessera/tessera/FloatTypeValueClassPinLaw" = true := by first | (simp [plainName, overriddenIn]; done) | decide +kernel
theorem own_pd0 : parseMethodDescriptor "()V" = some ⟨[], none⟩ := by decide +kernel
theorem own_pd1 : parseMethodDescriptor "(F)V" = some ⟨[.float], none⟩ := by decide +kernel
theorem own_pd2 : parseMethodDescriptor "(D)V" = some ⟨[.double], none⟩ := by decide +kernel
theorem own_pd3 : parseMethodDescriptor "(F)Ljava/lang/Float;" = some ⟨[.float], some (.object "java/lang/Float")⟩ := by decide +kernel
theorem own_pd4 : parseMethodDescriptor "(D)Ljava/lang/Double;" = some ⟨[.double], some (.object "java/lang/Double")⟩ := by decide +kernel
theorem own_pd5 : parseMethodDescriptor "(I)V" = some ⟨[.int], none⟩ := by decide +kernel
theorem own_pd6 : parseMethodDescriptor "()Ljava/lang/Class;" = some ⟨[], some (.object "java/lang/Class")⟩ := by decide +kernel
theorem own_pd7 : parseMethodDescriptor "(D)Ljava/lang/Object;" = some ⟨[.double], some (.object "java/lang/Object")⟩ := by decide +kernel
/-- the class named C has its mirror at a -/
def own_Mir (Z : State) (C : String) (a : Addr) : Prop := ∃ (c : ClassId) (k : Class), Z.vm.findClass C = some c ∧ Z.vm.classes[c]? = some k ∧ k.mirror = some a
def own_nes (a b : Nat) : Prop := a < b ∨ b < a
theorem own_ldcM {p : Program} {l : Launch} {e : Env} {R : Room} {s : State} {m : MethodId} {args : Array Value} {below : List Frame} {meth : Method} {c : Code} {T : State} {locs : List Loc} {cells slots : Nat} {Z : State} {a0 : Array Value} {h : Heap}
    (X : Stand p l e R s m args below meth c T locs cells slots) (hx : p.tables.exec = Jvm.exec) (hZ : Z.Warmed39 s.vm) {own C : String} {index : Nat} (hown : s.vm.findClass own = some m.cls) (w : (Jvm.Cond.classLink own index C).before a0 Z = true) (eT : T.heap = h) {a : Addr} (M : own_Mir Z C a)
    {g : JFrame} (hg : g.method = m) (hd : decode c.code g.pc = .ok (.ldc index, 2)) :
    ∃ T', Stand p l e R s m args below meth c T' locs cells slots ∧ T'.heap = h ∧ ∀ target, Steps p.tables e below (T'.setTop { g with pc := g.pc + 2, stack := .ref a :: g.stack }) target → Steps p.tables e below (T.setTop g) target := by
  obtain ⟨cc, k, h1, h2, h3⟩ := M
  obtain ⟨k', q1, q2⟩ := hZ.alike.2.2 _ _ h2
  have hm : k'.mirror = some a := by rw [q2]; exact h3
  have hev : (Jvm.Term.mirror C).eval args s none [] s = some (.ref a) := by
    simp only [Term.eval, hZ.alike.findClass, h1, Option.bind_eq_bind, Option.bind_some, q1, hm, Option.pure_def]
  obtain ⟨vm', X', st⟩ := X.ldcMirror hx hown (mvT hZ w) hev hg hd
  exact ⟨_, X', eT, st⟩
theorem own_mirne {s : State} {A B : String} (hA : Jvm.D.MirrorMade s A) (hB : Jvm.D.MirrorMade s B) (hn : A ≠ B) : ∃ a b, own_Mir s A a ∧ own_Mir s B b ∧ own_nes a b := by
  obtain ⟨c1, k1, m1, a1, a2, a3, x1, a4, a5⟩ := hA
  obtain ⟨c2, k2, m2, b1, b2, b3, x2, b4, b5⟩ := hB
  refine ⟨m1, m2, ⟨c1, k1, a1, a2, a3⟩, ⟨c2, k2, b1, b2, b3⟩, ?_⟩
  have ne := ids_ne a1 b1 hn
  have q : (m1 : Nat) ≠ m2 := fun q => by
    subst q
    cases a4.symm.trans b4
    rw [a5] at b5
    cases b5
    exact ne rfl
  exact Nat.lt_or_gt_of_ne q

theorem own_d2_0 : decode jdk_30_method_1_code 0 = .ok (.aload_n 0, 1) := by decide +kernel
theorem own_d2_1 : decode jdk_30_method_1_code 1 = .ok (.invokespecial 1, 3) := by decide +kernel
theorem own_d2_4 : decode jdk_30_method_1_code 4 = .ok (.return_, 1) := by decide +kernel
theorem own_ef_own_rm2 (m : MethodId) (x0 : Addr) : entryFrame m #[(.ref x0)] 1 = mkF m 0 #[.val (.ref x0)] [] := by first | (simp [entryFrame, mkF, argsToLocals, Value.category]; done) | rfl
def own_Q2 (Z : State) (a_1 : Addr) (h0 : Heap) (n0 : Nat) (v : Option Value) (h : Heap) (L : List Loc) : Prop := v = none ∧ Fr n0 L ∧ h = h0
set_option maxRecDepth 65536 in
set_option maxHeartbeats 40000000 in
theorem own_rm2 (l : Launch) (Z : State) (a0 : Array Value) (hw : ∀ d ∈ tables_1, d.before a0 Z = true) (ws : List Jvm.Cond) (a_1 : Addr) (h0 : Heap) (n0 : Nat) (Z0 : n0 ≤ h0.size) :
    MetFree l (⟨"java/lang/Record", "<init>", "()V"⟩ : MethodName) (head1 (Jvm.Cond.code (⟨"java/lang/Record", "<init>", "()V"⟩ : MethodName) jdk_30_method_1_code 1 none :: ws) ({ frames := 1, cells := 0, slots := 0, locals := 12 } : Room)) (fun a U => a = #[(.ref a_1)] ∧ Z.Warmed39 U.vm ∧ U.heap = h0) (fun _ _ _ _ _ => True) (fun _ U o U' => ∃ v L, o = .returned v ∧ own_Q2 Z a_1 h0 n0 v U'.heap L ∧ FrameEnd U o U' L ({ frames := 1, cells := 0, slots := 0, locals := 12 } : Room).cells ({ frames := 1, cells := 0, slots := 0, locals := 12 } : Room).slots) := by
  refine MetFree.of_bodySF (plainFor_of_name own_pn0) hisR ?_
  intro p e s m args below meth c s₁ Bd hml0 hP hK
  obtain ⟨rfl, hZ, hh⟩ := hP
  have hx := Bd.exec
  have hby := Bd.bytes
  have hml : c.maxLocals = 1 := hml0
  have hown : s.vm.findClass "java/lang/Record" = some m.cls := findClass_of_methodNamed Bd.named
  have hnm := (name_of_methodNamed Bd.named Bd.method).1
  have X0 : Stand p l e ({ frames := 1, cells := 0, slots := 0, locals := 12 } : Room) s m #[(.ref a_1)] below meth c s₁ [] 0 0 := Stand.of_body Bd
  have e0 : s₁.heap = h0 := by rw [← hh, Bd.state]; rfl
  have N0 := Fr.nil n0
  have z0 : n0 ≤ h0.size := Z0
  show own_Go p.tables e below (fun t o => t.status = .running ∧ Ended t below o ∧ ∃ v L, o = .returned v ∧ own_Q2 Z a_1 h0 n0 v t.heap L ∧ FrameEnd s o t L ({ frames := 1, cells := 0, slots := 0, locals := 12 } : Room).cells ({ frames := 1, cells := 0, slots := 0, locals := 12 } : Room).slots) s₁ (entryFrame m #[(.ref a_1)] 1)
  rw [own_ef_own_rm2 m a_1]
  show own_Go _ _ _ _ s₁ (mkF m 0 #[.val (.ref a_1)] [])
  refine own_go (fun _ k => XS.aloadN X0.here hx rfl (hb hby own_d2_0) rfl rfl k) ?_
  show own_Go _ _ _ _ s₁ (mkF m 1 #[.val (.ref a_1)] [(.ref a_1)])
  obtain ⟨T1, X1, e1, st1⟩ := initO X0 hx hZ hown (hw _ (List.mem_of_getElem? (i := 11) rfl)) (hw _ (List.mem_of_getElem? (i := 12) rfl)) (hw _ (List.mem_of_getElem? (i := 13) rfl)) e0 (g := (mkF m 1 #[.val (.ref a_1)] [(.ref a_1)])) rfl (by rw [hml]; rfl) rfl (hb hby own_d2_1) (by decide) (W := 0) (by show 2 * 0 + _ ≤ _; exact Nat.le_of_eq rfl) (by decide)
  refine own_go (fun _ k => st1 _ k) ?_
  show own_Go _ _ _ _ T1 (mkF m 4 #[.val (.ref a_1)] [])
  obtain ⟨fs, hr, hrun, hended, hW, hsame⟩ := X1.leave (v := none) (fun _ => rfl)
  refine ⟨_, _, X1.returnOut hx Bd.returns (hb hby own_d2_4) hr, hrun, hended, _, _, rfl, ?_, ⟨_, rfl⟩, hW, hsame.mono (by decide) (by decide)⟩
  show own_Q2 Z a_1 h0 n0 _ T1.heap _
  rw [e1]
  exact ⟨rfl, N0, rfl⟩
theorem own_d8_0 : decode jdk_18_method_1_code 0 = .ok (.aload_n 0, 1) := by decide +kernel
theorem own_d8_1 : decode jdk_18_method_1_code 1 = .ok (.invokespecial 1, 3) := by decide +kernel
theorem own_d8_4 : decode jdk_18_method_1_code 4 = .ok (.return_, 1) := by decide +kernel
theorem own_ef_own_rm8 (m : MethodId) (x0 : Addr) : entryFrame m #[(.ref x0)] 1 = mkF m 0 #[.val (.ref x0)] [] := by first | (simp [entryFrame, mkF, argsToLocals, Value.category]; done) | rfl
def own_Q8 (Z : State) (a_1 : Addr) (h0 : Heap) (n0 : Nat) (v : Option Value) (h : Heap) (L : List Loc) : Prop := v = none ∧ Fr n0 L ∧ h = h0
set_option maxRecDepth 65536 in
set_option maxHeartbeats 40000000 in
theorem own_rm8 (l : Launch) (Z : State) (a0 : Array Value) (hw : ∀ d ∈ tables_1, d.before a0 Z = true) (ws : List Jvm.Cond) (a_1 : Addr) (h0 : Heap) (n0 : Nat) (Z0 : n0 ≤ h0.size) :
    MetFree l (⟨"java/lang/Number", "<init>", "()V"⟩ : MethodName) (head1 (Jvm.Cond.code (⟨"java/lang/Number", "<init>", "()V"⟩ : MethodName) jdk_18_method_1_code 1 none :: ws) ({ frames := 1, cells := 0, slots := 0, locals := 12 } : Room)) (fun a U => a = #[(.ref a_1)] ∧ Z.Warmed39 U.vm ∧ U.heap = h0) (fun _ _ _ _ _ => True) (fun _ U o U' => ∃ v L, o = .returned v ∧ own_Q8 Z a_1 h0 n0 v U'.heap L ∧ FrameEnd U o U' L ({ frames := 1, cells := 0, slots := 0, locals := 12 } : Room).cells ({ frames := 1, cells := 0, slots := 0, locals := 12 } : Room).slots) := by
  refine MetFree.of_bodySF (plainFor_of_name own_pn1) hisR ?_
  intro p e s m args below meth c s₁ Bd hml0 hP hK
  obtain ⟨rfl, hZ, hh⟩ := hP
  have hx := Bd.exec
  have hby := Bd.bytes
  have hml : c.maxLocals = 1 := hml0
  have hown : s.vm.findClass "java/lang/Number" = some m.cls := findClass_of_methodNamed Bd.named
  have hnm := (name_of_methodNamed Bd.named Bd.method).1
  have X0 : Stand p l e ({ frames := 1, cells := 0, slots := 0, locals := 12 } : Room) s m #[(.ref a_1)] below meth c s₁ [] 0 0 := Stand.of_body Bd
  have e0 : s₁.heap = h0 := by rw [← hh, Bd.state]; rfl
  have N0 := Fr.nil n0
  have z0 : n0 ≤ h0.size := Z0
  show own_Go p.tables e below (fun t o => t.status = .running ∧ Ended t below o ∧ ∃ v L, o = .returned v ∧ own_Q8 Z a_1 h0 n0 v t.heap L ∧ FrameEnd s o t L ({ frames := 1, cells := 0, slots := 0, locals := 12 } : Room).cells ({ frames := 1, cells := 0, slots := 0, locals := 12 } : Room).slots) s₁ (entryFrame m #[(.ref a_1)] 1)
  rw [own_ef_own_rm8 m a_1]
  show own_Go _ _ _ _ s₁ (mkF m 0 #[.val (.ref a_1)] [])
  refine own_go (fun _ k => XS.aloadN X0.here hx rfl (hb hby own_d8_0) rfl rfl k) ?_
  show own_Go _ _ _ _ s₁ (mkF m 1 #[.val (.ref a_1)] [(.ref a_1)])
  obtain ⟨T1, X1, e1, st1⟩ := initO X0 hx hZ hown (hw _ (List.mem_of_getElem? (i := 43) rfl)) (hw _ (List.mem_of_getElem? (i := 12) rfl)) (hw _ (List.mem_of_getElem? (i := 13) rfl)) e0 (g := (mkF m 1 #[.val (.ref a_1)] [(.ref a_1)])) rfl (by rw [hml]; rfl) rfl (hb hby own_d8_1) (by decide) (W := 0) (by show 2 * 0 + _ ≤ _; exact Nat.le_of_eq rfl) (by decide)
  refine own_go (fun _ k => st1 _ k) ?_
  show own_Go _ _ _ _ T1 (mkF m 4 #[.val (.ref a_1)] [])
  obtain ⟨fs, hr, hrun, hended, hW, hsame⟩ := X1.leave (v := none) (fun _ => rfl)
  refine ⟨_, _, X1.returnOut hx Bd.returns (hb hby own_d8_4) hr, hrun, hended, _, _, rfl, ?_, ⟨_, rfl⟩, hW, hsame.mono (by decide) (by decide)⟩
  show own_Q8 Z a_1 h0 n0 _ T1.heap _
  rw [e1]
  exact ⟨rfl, N0, rfl⟩
theorem own_d1_0 : decode prog_19_method_1_code 0 = .ok (.aload_n 0, 1) := by decide +kernel
theorem own_d1_1 : decode prog_19_method_1_code 1 = .ok (.invokespecial 1, 3) := by decide +kernel
theorem own_d1_4 : decode prog_19_method_1_code 4 = .ok (.iload_n 1, 1) := by decide +kernel
theorem own_d1_5 : decode prog_19_method_1_code 5 = .ok (.bipush 32, 2) := by decide +kernel
theorem own_d1_7 : decode prog_19_method_1_code 7 = .ok (.if_icmp .eq 23, 3) := by decide +kernel
theorem own_d1_30 : decode prog_19_method_1_code 30 = .ok (.aload_n 0, 1) := by decide +kernel
theorem own_d1_31 : decode prog_19_method_1_code 31 = .ok (.iload_n 1, 1) := by decide +kernel
theorem own_d1_32 : decode prog_19_method_1_code 32 = .ok (.putfield 16, 3) := by decide +kernel
theorem own_d1_35 : decode prog_19_method_1_code 35 = .ok (.return_, 1) := by decide +kernel
theorem own_ef_own_rm1_32 (m : MethodId) (x0 : Addr) : entryFrame m #[(.ref x0), (.int (32 : Int32))] 2 = mkF m 0 #[.val (.ref x0), .val (.int (32 : Int32))] [] := by first | (simp [entryFrame, mkF, argsToLocals, Value.category]; done) | rfl
def own_Q1_32 (Z : State) (a_1 : Addr) (w_bits_a_1 : Int32) (h0 : Heap) (n0 : Nat) (v : Option Value) (h : Heap) (L : List Loc) : Prop := v = none ∧ Fr n0 L ∧ Keep h0 h [a_1] ∧ Exa Z h a_1 "com/example/tessera/tessera/FloatType" ∧ Fld Z h a_1 "com/example/tessera/tessera/FloatType" "bits" "I" (.int (32 : Int32))
set_option maxRecDepth 65536 in
set_option maxHeartbeats 40000000 in
theorem own_rm1_32 (l : Launch) (Z : State) (a0 : Array Value) (hw : ∀ d ∈ tables_1, d.before a0 Z = true) (ws : List Jvm.Cond) (a_1 : Addr) (w_bits_a_1 : Int32) (h0 : Heap) (n0 : Nat) (Z0 : n0 ≤ h0.size) (pr_E_a_1 : Exa Z h0 a_1 "com/example/tessera/tessera/FloatType") (pr_F_a_1_bits : Fld Z h0 a_1 "com/example/tessera/tessera/FloatType" "bits" "I" (.int w_bits_a_1)) (gw_a_1 : n0 ≤ a_1) :
    MetFree l (⟨"com/example/tessera/tessera/FloatType", "<init>", "(I)V"⟩ : MethodName) (head1 (Jvm.Cond.code (⟨"com/example/tessera/tessera/FloatType", "<init>", "(I)V"⟩ : MethodName) prog_19_method_1_code 2 none :: ws) ({ frames := 2, cells := 0, slots := 0, locals := 24 } : Room)) (fun a U => a = #[(.ref a_1), (.int (32 : Int32))] ∧ Z.Warmed39 U.vm ∧ U.heap = h0) (fun _ _ _ _ _ => True) (fun _ U o U' => ∃ v L, o = .returned v ∧ own_Q1_32 Z a_1 w_bits_a_1 h0 n0 v U'.heap L ∧ FrameEnd U o U' L ({ frames := 2, cells := 0, slots := 0, locals := 24 } : Room).cells ({ frames := 2, cells := 0, slots := 0, locals := 24 } : Room).slots) := by
  refine MetFree.of_bodySF (plainFor_of_name own_pn2) hisR ?_
  intro p e s m args below meth c s₁ Bd hml0 hP hK
  obtain ⟨rfl, hZ, hh⟩ := hP
  have hx := Bd.exec
  have hby := Bd.bytes
  have hml : c.maxLocals = 2 := hml0
  have hown : s.vm.findClass "com/example/tessera/tessera/FloatType" = some m.cls := findClass_of_methodNamed Bd.named
  have hnm := (name_of_methodNamed Bd.named Bd.method).1
  have X0 : Stand p l e ({ frames := 2, cells := 0, slots := 0, locals := 24 } : Room) s m #[(.ref a_1), (.int (32 : Int32))] below meth c s₁ [] 0 0 := Stand.of_body Bd
  have e0 : s₁.heap = h0 := by rw [← hh, Bd.state]; rfl
  have N0 := Fr.nil n0
  have w_10 := hw _ (List.mem_of_getElem? (i := 10) rfl)
  have z0 : n0 ≤ h0.size := Z0
  have z1 := own_lt pr_E_a_1.lt
  have z2 := own_lt pr_F_a_1_bits.lt
  have K0 : Keep h0 h0 [a_1] := Keep.refl h0 _
  show own_Go p.tables e below (fun t o => t.status = .running ∧ Ended t below o ∧ ∃ v L, o = .returned v ∧ own_Q1_32 Z a_1 w_bits_a_1 h0 n0 v t.heap L ∧ FrameEnd s o t L ({ frames := 2, cells := 0, slots := 0, locals := 24 } : Room).cells ({ frames := 2, cells := 0, slots := 0, locals := 24 } : Room).slots) s₁ (entryFrame m #[(.ref a_1), (.int (32 : Int32))] 2)
  rw [own_ef_own_rm1_32 m a_1]
  show own_Go _ _ _ _ s₁ (mkF m 0 #[.val (.ref a_1), .val (.int (32 : Int32))] [])
  refine own_go (fun _ k => XS.aloadN X0.here hx rfl (hb hby own_d1_0) rfl rfl k) ?_
  show own_Go _ _ _ _ s₁ (mkF m 1 #[.val (.ref a_1), .val (.int (32 : Int32))] [(.ref a_1)])
  obtain ⟨_, _, ⟨T3, L3, k3, n3⟩, -, X3, ⟨Lc3, hQ3, l3, y3, z3⟩, st3⟩ := X0.specialBack hx (y := (⟨"java/lang/Record", "<init>", "()V"⟩ : MethodName)) rfl hown (mvT hZ (hw _ (List.mem_of_getElem? (i := 6) rfl))) (mvT hZ (hw _ (List.mem_of_getElem? (i := 7) rfl))) (mvT hZ w_10) (by decide) (backOf (W := 0) (own_rm2 l Z a0 hw [] a_1  h0 n0 (by omega) ) hZ w_10 (hw _ (List.mem_of_getElem? (i := 9) rfl)) (by decide) (by decide)) (g := (mkF m 1 #[.val (.ref a_1), .val (.int (32 : Int32))] [(.ref a_1)])) rfl (by rw [hml]; rfl) (Steps.refl _) (a := a_1) (argsL := []) (rest := []) (lenOf own_pd0 rfl) rfl (by show 2 * 0 + _ ≤ _; exact Nat.le_of_eq rfl) (hb hby own_d1_1) (fun _ _ => ⟨rfl, e0, (by decide : 0 + 0 ≤ _), (by decide : 0 + 0 ≤ _)⟩)
  dsimp only [Pt.U, Pt.locs, Pt.cells, Pt.slots] at X3 l3 y3 z3 st3 hQ3
  have y3 : k3 = 0 := y3
  have z3 : n3 = 0 := z3
  obtain ⟨rfl, N3q, e3⟩ := hQ3
  have N3 : Fr n0 L3 := by rw [l3]; exact Fr.app N0 N3q
  refine own_go (fun _ k => st3.trans k) ?_
  show own_Go _ _ _ _ T3 (mkF m 4 #[.val (.ref a_1), .val (.int (32 : Int32))] [])
  refine own_go (fun _ k => XS.iloadN X3.here hx rfl (hb hby own_d1_4) rfl k) ?_
  show own_Go _ _ _ _ T3 (mkF m 5 #[.val (.ref a_1), .val (.int (32 : Int32))] [(.int (32 : Int32))])
  refine own_go (fun _ k => XS.bipush X3.here hx rfl (hb hby own_d1_5) k) ?_
  show own_Go _ _ _ _ T3 (mkF m 7 #[.val (.ref a_1), .val (.int (32 : Int32))] [(.int (32 : Int32)), (.int (32 : Int32))])
  have hc4 : (32 : Int32) = (32 : Int32) := by decide
  refine own_go (fun _ k => XS.icmpYes X3.here hx rfl (pc0 := 7) (pc' := 30) rfl (hb hby own_d1_7) rfl (Jvm.Free.XT.ii_eq_t hc4) (by decide) (by decide) k) ?_
  show own_Go _ _ _ _ T3 (mkF m 30 #[.val (.ref a_1), .val (.int (32 : Int32))] [])
  refine own_go (fun _ k => XS.aloadN X3.here hx rfl (hb hby own_d1_30) rfl rfl k) ?_
  show own_Go _ _ _ _ T3 (mkF m 31 #[.val (.ref a_1), .val (.int (32 : Int32))] [(.ref a_1)])
  refine own_go (fun _ k => XS.iloadN X3.here hx rfl (hb hby own_d1_31) rfl k) ?_
  show own_Go _ _ _ _ T3 (mkF m 32 #[.val (.ref a_1), .val (.int (32 : Int32))] [(.int (32 : Int32)), (.ref a_1)])
  obtain ⟨T5, h5, X5, e5, W5, st5⟩ := putF X3 hx hZ hown (host := "") (Or.inl (hw _ (List.mem_of_getElem? (i := 14) rfl))) Via.refl e3 pr_F_a_1_bits pr_E_a_1 (Or.inr ⟨(hw _ (List.mem_of_getElem? (i := 15) rfl)), rfl, hnm⟩) (hw _ (List.mem_of_getElem? (i := 1) rfl)) (ty := .int) (by decide) rfl rfl (g := (mkF m 32 #[.val (.ref a_1), .val (.int (32 : Int32))] [(.int (32 : Int32)), (.ref a_1)])) rfl rfl (hb hby own_d1_32)
  have z6 := W5.size
  have K5 : Keep h0 h5 [a_1] := K0.wr W5 (Or.inl (List.mem_of_getElem? (i := 0) rfl))
  have N5 := Fr.snoc X5 N3 (by omega : n0 ≤ a_1)
  have Fw5 : Fld Z h5 a_1 "com/example/tessera/tessera/FloatType" "bits" "I" (.int (32 : Int32)) := Fld.same W5 pr_F_a_1_bits
  refine own_go (fun _ k => st5 _ k) ?_
  show own_Go _ _ _ _ T5 (mkF m 35 #[.val (.ref a_1), .val (.int (32 : Int32))] [])
  obtain ⟨fs, hr, hrun, hended, hW, hsame⟩ := X5.leave (v := none) (fun _ => rfl)
  refine ⟨_, _, X5.returnOut hx Bd.returns (hb hby own_d1_35) hr, hrun, hended, _, _, rfl, ?_, ⟨_, rfl⟩, hW, hsame.mono (by rw [y3]; decide) (by rw [z3]; decide)⟩
  show own_Q1_32 Z a_1 w_bits_a_1 h0 n0 _ T5.heap _
  rw [e5]
  have f8 : Exa Z h5 a_1 "com/example/tessera/tessera/FloatType" := (pr_E_a_1.wr W5)
  exact ⟨rfl, N5, K5, f8, Fw5⟩
theorem own_d1_10 : decode prog_19_method_1_code 10 = .ok (.iload_n 1, 1) := by decide +kernel
theorem own_d1_11 : decode prog_19_method_1_code 11 = .ok (.bipush 64, 2) := by decide +kernel
theorem own_d1_13 : decode prog_19_method_1_code 13 = .ok (.if_icmp .eq 17, 3) := by decide +kernel
theorem own_ef_own_rm1_64 (m : MethodId) (x0 : Addr) : entryFrame m #[(.ref x0), (.int (64 : Int32))] 2 = mkF m 0 #[.val (.ref x0), .val (.int (64 : Int32))] [] := by first | (simp [entryFrame, mkF, argsToLocals, Value.category]; done) | rfl
def own_Q1_64 (Z : State) (a_1 : Addr) (w_bits_a_1 : Int32) (h0 : Heap) (n0 : Nat) (v : Option Value) (h : Heap) (L : List Loc) : Prop := v = none ∧ Fr n0 L ∧ Keep h0 h [a_1] ∧ Exa Z h a_1 "com/example/tessera/tessera/FloatType" ∧ Fld Z h a_1 "com/example/tessera/tessera/FloatType" "bits" "I" (.int (64 : Int32))
set_option maxRecDepth 65536 in
set_option maxHeartbeats 40000000 in
theorem own_rm1_64 (l : Launch) (Z : State) (a0 : Array Value) (hw : ∀ d ∈ tables_1, d.before a0 Z = true) (ws : List Jvm.Cond) (a_1 : Addr) (w_bits_a_1 : Int32) (h0 : Heap) (n0 : Nat) (Z0 : n0 ≤ h0.size) (pr_E_a_1 : Exa Z h0 a_1 "com/example/tessera/tessera/FloatType") (pr_F_a_1_bits : Fld Z h0 a_1 "com/example/tessera/tessera/FloatType" "bits" "I" (.int w_bits_a_1)) (gw_a_1 : n0 ≤ a_1) :
    MetFree l (⟨"com/example/tessera/tessera/FloatType", "<init>", "(I)V"⟩ : MethodName) (head1 (Jvm.Cond.code (⟨"com/example/tessera/tessera/FloatType", "<init>", "(I)V"⟩ : MethodName) prog_19_method_1_code 2 none :: ws) ({ frames := 2, cells := 0, slots := 0, locals := 24 } : Room)) (fun a U => a = #[(.ref a_1), (.int (64 : Int32))] ∧ Z.Warmed39 U.vm ∧ U.heap = h0) (fun _ _ _ _ _ => True) (fun _ U o U' => ∃ v L, o = .returned v ∧ own_Q1_64 Z a_1 w_bits_a_1 h0 n0 v U'.heap L ∧ FrameEnd U o U' L ({ frames := 2, cells := 0, slots := 0, locals := 24 } : Room).cells ({ frames := 2, cells := 0, slots := 0, locals := 24 } : Room).slots) := by
  refine MetFree.of_bodySF (plainFor_of_name own_pn2) hisR ?_
  intro p e s m args below meth c s₁ Bd hml0 hP hK
  obtain ⟨rfl, hZ, hh⟩ := hP
  have hx := Bd.exec
  have hby := Bd.bytes
  have hml : c.maxLocals = 2 := hml0
  have hown : s.vm.findClass "com/example/tessera/tessera/FloatType" = some m.cls := findClass_of_methodNamed Bd.named
  have hnm := (name_of_methodNamed Bd.named Bd.method).1
  have X0 : Stand p l e ({ frames := 2, cells := 0, slots := 0, locals := 24 } : Room) s m #[(.ref a_1), (.int (64 : Int32))] below meth c s₁ [] 0 0 := Stand.of_body Bd
  have e0 : s₁.heap = h0 := by rw [← hh, Bd.state]; rfl
  have N0 := Fr.nil n0
  have w_10 := hw _ (List.mem_of_getElem? (i := 10) rfl)
  have z0 : n0 ≤ h0.size := Z0
  have z1 := own_lt pr_E_a_1.lt
  have z2 := own_lt pr_F_a_1_bits.lt
  have K0 : Keep h0 h0 [a_1] := Keep.refl h0 _
  show own_Go p.tables e below (fun t o => t.status = .running ∧ Ended t below o ∧ ∃ v L, o = .returned v ∧ own_Q1_64 Z a_1 w_bits_a_1 h0 n0 v t.heap L ∧ FrameEnd s o t L ({ frames := 2, cells := 0, slots := 0, locals := 24 } : Room).cells ({ frames := 2, cells := 0, slots := 0, locals := 24 } : Room).slots) s₁ (entryFrame m #[(.ref a_1), (.int (64 : Int32))] 2)
  rw [own_ef_own_rm1_64 m a_1]
  show own_Go _ _ _ _ s₁ (mkF m 0 #[.val (.ref a_1), .val (.int (64 : Int32))] [])
  refine own_go (fun _ k => XS.aloadN X0.here hx rfl (hb hby own_d1_0) rfl rfl k) ?_
  show own_Go _ _ _ _ s₁ (mkF m 1 #[.val (.ref a_1), .val (.int (64 : Int32))] [(.ref a_1)])
  obtain ⟨_, _, ⟨T3, L3, k3, n3⟩, -, X3, ⟨Lc3, hQ3, l3, y3, z3⟩, st3⟩ := X0.specialBack hx (y := (⟨"java/lang/Record", "<init>", "()V"⟩ : MethodName)) rfl hown (mvT hZ (hw _ (List.mem_of_getElem? (i := 6) rfl))) (mvT hZ (hw _ (List.mem_of_getElem? (i := 7) rfl))) (mvT hZ w_10) (by decide) (backOf (W := 0) (own_rm2 l Z a0 hw [] a_1  h0 n0 (by omega) ) hZ w_10 (hw _ (List.mem_of_getElem? (i := 9) rfl)) (by decide) (by decide)) (g := (mkF m 1 #[.val (.ref a_1), .val (.int (64 : Int32))] [(.ref a_1)])) rfl (by rw [hml]; rfl) (Steps.refl _) (a := a_1) (argsL := []) (rest := []) (lenOf own_pd0 rfl) rfl (by show 2 * 0 + _ ≤ _; exact Nat.le_of_eq rfl) (hb hby own_d1_1) (fun _ _ => ⟨rfl, e0, (by decide : 0 + 0 ≤ _), (by decide : 0 + 0 ≤ _)⟩)
  dsimp only [Pt.U, Pt.locs, Pt.cells, Pt.slots] at X3 l3 y3 z3 st3 hQ3
  have y3 : k3 = 0 := y3
  have z3 : n3 = 0 := z3
  obtain ⟨rfl, N3q, e3⟩ := hQ3
  have N3 : Fr n0 L3 := by rw [l3]; exact Fr.app N0 N3q
  refine own_go (fun _ k => st3.trans k) ?_
  show own_Go _ _ _ _ T3 (mkF m 4 #[.val (.ref a_1), .val (.int (64 : Int32))] [])
  refine own_go (fun _ k => XS.iloadN X3.here hx rfl (hb hby own_d1_4) rfl k) ?_
  show own_Go _ _ _ _ T3 (mkF m 5 #[.val (.ref a_1), .val (.int (64 : Int32))] [(.int (64 : Int32))])
  refine own_go (fun _ k => XS.bipush X3.here hx rfl (hb hby own_d1_5) k) ?_
  show own_Go _ _ _ _ T3 (mkF m 7 #[.val (.ref a_1), .val (.int (64 : Int32))] [(.int (32 : Int32)), (.int (64 : Int32))])
  have hc4 : ¬ ((64 : Int32) = (32 : Int32)) := by decide
  refine own_go (fun _ k => XS.icmpNo X3.here hx rfl (hb hby own_d1_7) rfl (Jvm.Free.XT.ii_eq_f hc4) k) ?_
  show own_Go _ _ _ _ T3 (mkF m 10 #[.val (.ref a_1), .val (.int (64 : Int32))] [])
  refine own_go (fun _ k => XS.iloadN X3.here hx rfl (hb hby own_d1_10) rfl k) ?_
  show own_Go _ _ _ _ T3 (mkF m 11 #[.val (.ref a_1), .val (.int (64 : Int32))] [(.int (64 : Int32))])
  refine own_go (fun _ k => XS.bipush X3.here hx rfl (hb hby own_d1_11) k) ?_
  show own_Go _ _ _ _ T3 (mkF m 13 #[.val (.ref a_1), .val (.int (64 : Int32))] [(.int (64 : Int32)), (.int (64 : Int32))])
  have hc5 : (64 : Int32) = (64 : Int32) := by decide
  refine own_go (fun _ k => XS.icmpYes X3.here hx rfl (pc0 := 13) (pc' := 30) rfl (hb hby own_d1_13) rfl (Jvm.Free.XT.ii_eq_t hc5) (by decide) (by decide) k) ?_
  show own_Go _ _ _ _ T3 (mkF m 30 #[.val (.ref a_1), .val (.int (64 : Int32))] [])
  refine own_go (fun _ k => XS.aloadN X3.here hx rfl (hb hby own_d1_30) rfl rfl k) ?_
  show own_Go _ _ _ _ T3 (mkF m 31 #[.val (.ref a_1), .val (.int (64 : Int32))] [(.ref a_1)])
  refine own_go (fun _ k => XS.iloadN X3.here hx rfl (hb hby own_d1_31) rfl k) ?_
  show own_Go _ _ _ _ T3 (mkF m 32 #[.val (.ref a_1), .val (.int (64 : Int32))] [(.int (64 : Int32)), (.ref a_1)])
  obtain ⟨T6, h6, X6, e6, W6, st6⟩ := putF X3 hx hZ hown (host := "") (Or.inl (hw _ (List.mem_of_getElem? (i := 14) rfl))) Via.refl e3 pr_F_a_1_bits pr_E_a_1 (Or.inr ⟨(hw _ (List.mem_of_getElem? (i := 15) rfl)), rfl, hnm⟩) (hw _ (List.mem_of_getElem? (i := 1) rfl)) (ty := .int) (by decide) rfl rfl (g := (mkF m 32 #[.val (.ref a_1), .val (.int (64 : Int32))] [(.int (64 : Int32)), (.ref a_1)])) rfl rfl (hb hby own_d1_32)
  have z7 := W6.size
  have K6 : Keep h0 h6 [a_1] := K0.wr W6 (Or.inl (List.mem_of_getElem? (i := 0) rfl))
  have N6 := Fr.snoc X6 N3 (by omega : n0 ≤ a_1)
  have Fw6 : Fld Z h6 a_1 "com/example/tessera/tessera/FloatType" "bits" "I" (.int (64 : Int32)) := Fld.same W6 pr_F_a_1_bits
  refine own_go (fun _ k => st6 _ k) ?_
  show own_Go _ _ _ _ T6 (mkF m 35 #[.val (.ref a_1), .val (.int (64 : Int32))] [])
  obtain ⟨fs, hr, hrun, hended, hW, hsame⟩ := X6.leave (v := none) (fun _ => rfl)
  refine ⟨_, _, X6.returnOut hx Bd.returns (hb hby own_d1_35) hr, hrun, hended, _, _, rfl, ?_, ⟨_, rfl⟩, hW, hsame.mono (by rw [y3]; decide) (by rw [z3]; decide)⟩
  show own_Q1_64 Z a_1 w_bits_a_1 h0 n0 _ T6.heap _
  rw [e6]
  have f9 : Exa Z h6 a_1 "com/example/tessera/tessera/FloatType" := (pr_E_a_1.wr W6)
  exact ⟨rfl, N6, K6, f9, Fw6⟩
theorem own_d4_0 : decode prog_19_method_8_code 0 = .ok (.aload_n 0, 1) := by decide +kernel
theorem own_d4_1 : decode prog_19_method_8_code 1 = .ok (.getfield 16, 3) := by decide +kernel
theorem own_d4_4 : decode prog_19_method_8_code 4 = .ok (.bipush 32, 2) := by decide +kernel
theorem own_d4_6 : decode prog_19_method_8_code 6 = .ok (.if_icmp .ne 8, 3) := by decide +kernel
theorem own_d4_9 : decode prog_19_method_8_code 9 = .ok (.ldc 23, 2) := by decide +kernel
theorem own_d4_11 : decode prog_19_method_8_code 11 = .ok (.goto 5, 3) := by decide +kernel
theorem own_d4_16 : decode prog_19_method_8_code 16 = .ok (.areturn, 1) := by decide +kernel
theorem own_ef_own_rm4_32 (m : MethodId) (x0 : Addr) : entryFrame m #[(.ref x0)] 1 = mkF m 0 #[.val (.ref x0)] [] := by first | (simp [entryFrame, mkF, argsToLocals, Value.category]; done) | rfl
def own_Q4_32 (Z : State) (a_1 : Addr) (mF : Addr) (mD : Addr) (h0 : Heap) (n0 : Nat) (v : Option Value) (h : Heap) (L : List Loc) : Prop := v = some (.ref mF) ∧ Fr n0 L ∧ h = h0
set_option maxRecDepth 65536 in
set_option maxHeartbeats 40000000 in
theorem own_rm4_32 (l : Launch) (Z : State) (a0 : Array Value) (hw : ∀ d ∈ tables_1, d.before a0 Z = true) (ws : List Jvm.Cond) (a_1 : Addr) (mF : Addr) (mD : Addr) (h0 : Heap) (n0 : Nat) (Z0 : n0 ≤ h0.size) (pr_F_a_1_bits : Fld Z h0 a_1 "com/example/tessera/tessera/FloatType" "bits" "I" (.int (32 : Int32))) (hgF : own_Mir Z "java/lang/Float" mF) (hgD : own_Mir Z "java/lang/Double" mD) :
    MetFree l (⟨"com/example/tessera/tessera/FloatType", "valueClass", "()Ljava/lang/Class;"⟩ : MethodName) (head1 (Jvm.Cond.code (⟨"com/example/tessera/tessera/FloatType", "valueClass", "()Ljava/lang/Class;"⟩ : MethodName) prog_19_method_8_code 1 (some (.object "java/lang/Class")) :: ws) ({ frames := 0, cells := 0, slots := 0, locals := 0 } : Room)) (fun a U => a = #[(.ref a_1)] ∧ Z.Warmed39 U.vm ∧ U.heap = h0) (fun _ _ _ _ _ => True) (fun _ U o U' => ∃ v L, o = .returned v ∧ own_Q4_32 Z a_1 mF mD h0 n0 v U'.heap L ∧ FrameEnd U o U' L ({ frames := 0, cells := 0, slots := 0, locals := 0 } : Room).cells ({ frames := 0, cells := 0, slots := 0, locals := 0 } : Room).slots) := by
  refine MetFree.of_bodySF (plainFor_of_name own_pn2) hisR ?_
  intro p e s m args below meth c s₁ Bd hml0 hP hK
  obtain ⟨rfl, hZ, hh⟩ := hP
  have hx := Bd.exec
  have hby := Bd.bytes
  have hml : c.maxLocals = 1 := hml0
  have hown : s.vm.findClass "com/example/tessera/tessera/FloatType" = some m.cls := findClass_of_methodNamed Bd.named
  have hnm := (name_of_methodNamed Bd.named Bd.method).1
  have X0 : Stand p l e ({ frames := 0, cells := 0, slots := 0, locals := 0 } : Room) s m #[(.ref a_1)] below meth c s₁ [] 0 0 := Stand.of_body Bd
  have e0 : s₁.heap = h0 := by rw [← hh, Bd.state]; rfl
  have N0 := Fr.nil n0
  have z0 : n0 ≤ h0.size := Z0
  have z1 := own_lt pr_F_a_1_bits.lt
  show own_Go p.tables e below (fun t o => t.status = .running ∧ Ended t below o ∧ ∃ v L, o = .returned v ∧ own_Q4_32 Z a_1 mF mD h0 n0 v t.heap L ∧ FrameEnd s o t L ({ frames := 0, cells := 0, slots := 0, locals := 0 } : Room).cells ({ frames := 0, cells := 0, slots := 0, locals := 0 } : Room).slots) s₁ (entryFrame m #[(.ref a_1)] 1)
  rw [own_ef_own_rm4_32 m a_1]
  show own_Go _ _ _ _ s₁ (mkF m 0 #[.val (.ref a_1)] [])
  refine own_go (fun _ k => XS.aloadN X0.here hx rfl (hb hby own_d4_0) rfl rfl k) ?_
  show own_Go _ _ _ _ s₁ (mkF m 1 #[.val (.ref a_1)] [(.ref a_1)])
  obtain ⟨T2, X2, e2, st2⟩ := getF X0 hx hZ hown (host := "") (Or.inl (hw _ (List.mem_of_getElem? (i := 14) rfl))) Via.refl e0 pr_F_a_1_bits (g := (mkF m 1 #[.val (.ref a_1)] [(.ref a_1)])) rfl rfl (hb hby own_d4_1)
  refine own_go (fun _ k => st2 _ k) ?_
  show own_Go _ _ _ _ T2 (mkF m 4 #[.val (.ref a_1)] [(.int (32 : Int32))])
  refine own_go (fun _ k => XS.bipush X2.here hx rfl (hb hby own_d4_4) k) ?_
  show own_Go _ _ _ _ T2 (mkF m 6 #[.val (.ref a_1)] [(.int (32 : Int32)), (.int (32 : Int32))])
  have hc3 : (32 : Int32) = (32 : Int32) := by decide
  refine own_go (fun _ k => XS.icmpNo X2.here hx rfl (hb hby own_d4_6) rfl (Jvm.Free.XT.ii_ne_f hc3) k) ?_
  show own_Go _ _ _ _ T2 (mkF m 9 #[.val (.ref a_1)] [])
  obtain ⟨T4, X4, e4, st4⟩ := own_ldcM X2 hx hZ hown (hw _ (List.mem_of_getElem? (i := 21) rfl)) e2 hgF (g := (mkF m 9 #[.val (.ref a_1)] [])) rfl (hb hby own_d4_9)
  refine own_go (fun _ k => st4 _ k) ?_
  show own_Go _ _ _ _ T4 (mkF m 11 #[.val (.ref a_1)] [(.ref mF)])
  refine own_go (fun _ k => XS.goto X4.here hx rfl (pc0 := 11) (pc' := 16) rfl (hb hby own_d4_11) (by decide) (by decide) k) ?_
  show own_Go _ _ _ _ T4 (mkF m 16 #[.val (.ref a_1)] [(.ref mF)])
  obtain ⟨fs, hr, hrun, hended, hW, hsame⟩ := X4.leave (v := some (.ref mF)) (fun h => by rw [Bd.returns] at h; cases h)
  refine ⟨_, _, retOut X4 hx Bd.returns rfl (Or.inr (Or.inr (Or.inr (Or.inr ⟨rfl, rfl, rfl⟩)))) (hb hby own_d4_16) hr, hrun, hended, _, _, rfl, ?_, ⟨_, rfl⟩, hW, hsame.mono (by decide) (by decide)⟩
  show own_Q4_32 Z a_1 mF mD h0 n0 _ T4.heap _
  rw [e4]
  exact ⟨rfl, N0, rfl⟩
theorem own_d4_14 : decode prog_19_method_8_code 14 = .ok (.ldc 29, 2) := by decide +kernel
theorem own_ef_own_rm4_64 (m : MethodId) (x0 : Addr) : entryFrame m #[(.ref x0)] 1 = mkF m 0 #[.val (.ref x0)] [] := by first | (simp [entryFrame, mkF, argsToLocals, Value.category]; done) | rfl
def own_Q4_64 (Z : State) (a_1 : Addr) (mF : Addr) (mD : Addr) (h0 : Heap) (n0 : Nat) (v : Option Value) (h : Heap) (L : List Loc) : Prop := v = some (.ref mD) ∧ Fr n0 L ∧ h = h0
set_option maxRecDepth 65536 in
set_option maxHeartbeats 40000000 in
theorem own_rm4_64 (l : Launch) (Z : State) (a0 : Array Value) (hw : ∀ d ∈ tables_1, d.before a0 Z = true) (ws : List Jvm.Cond) (a_1 : Addr) (mF : Addr) (mD : Addr) (h0 : Heap) (n0 : Nat) (Z0 : n0 ≤ h0.size) (pr_F_a_1_bits : Fld Z h0 a_1 "com/example/tessera/tessera/FloatType" "bits" "I" (.int (64 : Int32))) (hgF : own_Mir Z "java/lang/Float" mF) (hgD : own_Mir Z "java/lang/Double" mD) :
    MetFree l (⟨"com/example/tessera/tessera/FloatType", "valueClass", "()Ljava/lang/Class;"⟩ : MethodName) (head1 (Jvm.Cond.code (⟨"com/example/tessera/tessera/FloatType", "valueClass", "()Ljava/lang/Class;"⟩ : MethodName) prog_19_method_8_code 1 (some (.object "java/lang/Class")) :: ws) ({ frames := 0, cells := 0, slots := 0, locals := 0 } : Room)) (fun a U => a = #[(.ref a_1)] ∧ Z.Warmed39 U.vm ∧ U.heap = h0) (fun _ _ _ _ _ => True) (fun _ U o U' => ∃ v L, o = .returned v ∧ own_Q4_64 Z a_1 mF mD h0 n0 v U'.heap L ∧ FrameEnd U o U' L ({ frames := 0, cells := 0, slots := 0, locals := 0 } : Room).cells ({ frames := 0, cells := 0, slots := 0, locals := 0 } : Room).slots) := by
  refine MetFree.of_bodySF (plainFor_of_name own_pn2) hisR ?_
  intro p e s m args below meth c s₁ Bd hml0 hP hK
  obtain ⟨rfl, hZ, hh⟩ := hP
  have hx := Bd.exec
  have hby := Bd.bytes
  have hml : c.maxLocals = 1 := hml0
  have hown : s.vm.findClass "com/example/tessera/tessera/FloatType" = some m.cls := findClass_of_methodNamed Bd.named
  have hnm := (name_of_methodNamed Bd.named Bd.method).1
  have X0 : Stand p l e ({ frames := 0, cells := 0, slots := 0, locals := 0 } : Room) s m #[(.ref a_1)] below meth c s₁ [] 0 0 := Stand.of_body Bd
  have e0 : s₁.heap = h0 := by rw [← hh, Bd.state]; rfl
  have N0 := Fr.nil n0
  have z0 : n0 ≤ h0.size := Z0
  have z1 := own_lt pr_F_a_1_bits.lt
  show own_Go p.tables e below (fun t o => t.status = .running ∧ Ended t below o ∧ ∃ v L, o = .returned v ∧ own_Q4_64 Z a_1 mF mD h0 n0 v t.heap L ∧ FrameEnd s o t L ({ frames := 0, cells := 0, slots := 0, locals := 0 } : Room).cells ({ frames := 0, cells := 0, slots := 0, locals := 0 } : Room).slots) s₁ (entryFrame m #[(.ref a_1)] 1)
  rw [own_ef_own_rm4_64 m a_1]
  show own_Go _ _ _ _ s₁ (mkF m 0 #[.val (.ref a_1)] [])
  refine own_go (fun _ k => XS.aloadN X0.here hx rfl (hb hby own_d4_0) rfl rfl k) ?_
  show own_Go _ _ _ _ s₁ (mkF m 1 #[.val (.ref a_1)] [(.ref a_1)])
  obtain ⟨T2, X2, e2, st2⟩ := getF X0 hx hZ hown (host := "") (Or.inl (hw _ (List.mem_of_getElem? (i := 14) rfl))) Via.refl e0 pr_F_a_1_bits (g := (mkF m 1 #[.val (.ref a_1)] [(.ref a_1)])) rfl rfl (hb hby own_d4_1)
  refine own_go (fun _ k => st2 _ k) ?_
  show own_Go _ _ _ _ T2 (mkF m 4 #[.val (.ref a_1)] [(.int (64 : Int32))])
  refine own_go (fun _ k => XS.bipush X2.here hx rfl (hb hby own_d4_4) k) ?_
  show own_Go _ _ _ _ T2 (mkF m 6 #[.val (.ref a_1)] [(.int (32 : Int32)), (.int (64 : Int32))])
  have hc3 : ¬ ((64 : Int32) = (32 : Int32)) := by decide
  refine own_go (fun _ k => XS.icmpYes X2.here hx rfl (pc0 := 6) (pc' := 14) rfl (hb hby own_d4_6) rfl (Jvm.Free.XT.ii_ne_t hc3) (by decide) (by decide) k) ?_
  show own_Go _ _ _ _ T2 (mkF m 14 #[.val (.ref a_1)] [])
  obtain ⟨T4, X4, e4, st4⟩ := own_ldcM X2 hx hZ hown (hw _ (List.mem_of_getElem? (i := 49) rfl)) e2 hgD (g := (mkF m 14 #[.val (.ref a_1)] [])) rfl (hb hby own_d4_14)
  refine own_go (fun _ k => st4 _ k) ?_
  show own_Go _ _ _ _ T4 (mkF m 16 #[.val (.ref a_1)] [(.ref mD)])
  obtain ⟨fs, hr, hrun, hended, hW, hsame⟩ := X4.leave (v := some (.ref mD)) (fun h => by rw [Bd.returns] at h; cases h)
  refine ⟨_, _, retOut X4 hx Bd.returns rfl (Or.inr (Or.inr (Or.inr (Or.inr ⟨rfl, rfl, rfl⟩)))) (hb hby own_d4_16) hr, hrun, hended, _, _, rfl, ?_, ⟨_, rfl⟩, hW, hsame.mono (by decide) (by decide)⟩
  show own_Q4_64 Z a_1 mF mD h0 n0 _ T4.heap _
  rw [e4]
  exact ⟨rfl, N0, rfl⟩
theorem own_d7_0 : decode jdk_118_method_9_code 0 = .ok (.aload_n 0, 1) := by decide +kernel
theorem own_d7_1 : decode jdk_118_method_9_code 1 = .ok (.invokespecial 50, 3) := by decide +kernel
theorem own_d7_4 : decode jdk_118_method_9_code 4 = .ok (.aload_n 0, 1) := by decide +kernel
theorem own_d7_5 : decode jdk_118_method_9_code 5 = .ok (.fload_n 1, 1) := by decide +kernel
theorem own_d7_6 : decode jdk_118_method_9_code 6 = .ok (.putfield 55, 3) := by decide +kernel
theorem own_d7_9 : decode jdk_118_method_9_code 9 = .ok (.return_, 1) := by decide +kernel
theorem own_ef_own_rm7 (m : MethodId) (x0 : Addr) (x1 : UInt32) : entryFrame m #[(.ref x0), (.float x1)] 2 = mkF m 0 #[.val (.ref x0), .val (.float x1)] [] := by first | (simp [entryFrame, mkF, argsToLocals, Value.category]; done) | rfl
def own_Q7 (Z : State) (a_1 : Addr) (x_2 : UInt32) (w_value_a_1 : UInt32) (h0 : Heap) (n0 : Nat) (v : Option Value) (h : Heap) (L : List Loc) : Prop := v = none ∧ Fr n0 L ∧ Keep h0 h [a_1] ∧ Exa Z h a_1 "java/lang/Float" ∧ Fld Z h a_1 "java/lang/Float" "value" "F" (.float x_2)
set_option maxRecDepth 65536 in
set_option maxHeartbeats 40000000 in
theorem own_rm7 (l : Launch) (Z : State) (a0 : Array Value) (hw : ∀ d ∈ tables_1, d.before a0 Z = true) (ws : List Jvm.Cond) (a_1 : Addr) (x_2 : UInt32) (w_value_a_1 : UInt32) (h0 : Heap) (n0 : Nat) (Z0 : n0 ≤ h0.size) (pr_E_a_1 : Exa Z h0 a_1 "java/lang/Float") (pr_F_a_1_value : Fld Z h0 a_1 "java/lang/Float" "value" "F" (.float w_value_a_1)) (gw_a_1 : n0 ≤ a_1) :
    MetFree l (⟨"java/lang/Float", "<init>", "(F)V"⟩ : MethodName) (head1 (Jvm.Cond.code (⟨"java/lang/Float", "<init>", "(F)V"⟩ : MethodName) jdk_118_method_9_code 2 none :: ws) ({ frames := 2, cells := 0, slots := 0, locals := 24 } : Room)) (fun a U => a = #[(.ref a_1), (.float x_2)] ∧ Z.Warmed39 U.vm ∧ U.heap = h0) (fun _ _ _ _ _ => True) (fun _ U o U' => ∃ v L, o = .returned v ∧ own_Q7 Z a_1 x_2 w_value_a_1 h0 n0 v U'.heap L ∧ FrameEnd U o U' L ({ frames := 2, cells := 0, slots := 0, locals := 24 } : Room).cells ({ frames := 2, cells := 0, slots := 0, locals := 24 } : Room).slots) := by
  refine MetFree.of_bodySF (by decide +kernel) hisR ?_
  intro p e s m args below meth c s₁ Bd hml0 hP hK
  obtain ⟨rfl, hZ, hh⟩ := hP
  have hx := Bd.exec
  have hby := Bd.bytes
  have hml : c.maxLocals = 2 := hml0
  have hown : s.vm.findClass "java/lang/Float" = some m.cls := findClass_of_methodNamed Bd.named
  have hnm := (name_of_methodNamed Bd.named Bd.method).1
  have X0 : Stand p l e ({ frames := 2, cells := 0, slots := 0, locals := 24 } : Room) s m #[(.ref a_1), (.float x_2)] below meth c s₁ [] 0 0 := Stand.of_body Bd
  have e0 : s₁.heap = h0 := by rw [← hh, Bd.state]; rfl
  have N0 := Fr.nil n0
  have w_42 := hw _ (List.mem_of_getElem? (i := 42) rfl)
  have z0 : n0 ≤ h0.size := Z0
  have z1 := own_lt pr_E_a_1.lt
  have z2 := own_lt pr_F_a_1_value.lt
  have K0 : Keep h0 h0 [a_1] := Keep.refl h0 _
  show own_Go p.tables e below (fun t o => t.status = .running ∧ Ended t below o ∧ ∃ v L, o = .returned v ∧ own_Q7 Z a_1 x_2 w_value_a_1 h0 n0 v t.heap L ∧ FrameEnd s o t L ({ frames := 2, cells := 0, slots := 0, locals := 24 } : Room).cells ({ frames := 2, cells := 0, slots := 0, locals := 24 } : Room).slots) s₁ (entryFrame m #[(.ref a_1), (.float x_2)] 2)
  rw [own_ef_own_rm7 m a_1 x_2]
  show own_Go _ _ _ _ s₁ (mkF m 0 #[.val (.ref a_1), .val (.float x_2)] [])
  refine own_go (fun _ k => XS.aloadN X0.here hx rfl (hb hby own_d7_0) rfl rfl k) ?_
  show own_Go _ _ _ _ s₁ (mkF m 1 #[.val (.ref a_1), .val (.float x_2)] [(.ref a_1)])
  obtain ⟨_, _, ⟨T3, L3, k3, n3⟩, -, X3, ⟨Lc3, hQ3, l3, y3, z3⟩, st3⟩ := X0.specialBack hx (y := (⟨"java/lang/Number", "<init>", "()V"⟩ : MethodName)) rfl hown (mvT hZ (hw _ (List.mem_of_getElem? (i := 37) rfl))) (mvT hZ (hw _ (List.mem_of_getElem? (i := 38) rfl))) (mvT hZ w_42) (by decide) (backOf (W := 0) (own_rm8 l Z a0 hw [] a_1  h0 n0 (by omega) ) hZ w_42 (hw _ (List.mem_of_getElem? (i := 41) rfl)) (by decide) (by decide)) (g := (mkF m 1 #[.val (.ref a_1), .val (.float x_2)] [(.ref a_1)])) rfl (by rw [hml]; rfl) (Steps.refl _) (a := a_1) (argsL := []) (rest := []) (lenOf own_pd0 rfl) rfl (by show 2 * 0 + _ ≤ _; exact Nat.le_of_eq rfl) (hb hby own_d7_1) (fun _ _ => ⟨rfl, e0, (by decide : 0 + 0 ≤ _), (by decide : 0 + 0 ≤ _)⟩)
  dsimp only [Pt.U, Pt.locs, Pt.cells, Pt.slots] at X3 l3 y3 z3 st3 hQ3
  have y3 : k3 = 0 := y3
  have z3 : n3 = 0 := z3
  obtain ⟨rfl, N3q, e3⟩ := hQ3
  have N3 : Fr n0 L3 := by rw [l3]; exact Fr.app N0 N3q
  refine own_go (fun _ k => st3.trans k) ?_
  show own_Go _ _ _ _ T3 (mkF m 4 #[.val (.ref a_1), .val (.float x_2)] [])
  refine own_go (fun _ k => XS.aloadN X3.here hx rfl (hb hby own_d7_4) rfl rfl k) ?_
  show own_Go _ _ _ _ T3 (mkF m 5 #[.val (.ref a_1), .val (.float x_2)] [(.ref a_1)])
  refine own_go (fun _ k => XS.floadN X3.here hx rfl (hb hby own_d7_5) rfl k) ?_
  show own_Go _ _ _ _ T3 (mkF m 6 #[.val (.ref a_1), .val (.float x_2)] [(.float x_2), (.ref a_1)])
  obtain ⟨T4, h4, X4, e4, W4, st4⟩ := putF X3 hx hZ hown (host := "") (Or.inl (hw _ (List.mem_of_getElem? (i := 44) rfl))) Via.refl e3 pr_F_a_1_value pr_E_a_1 (Or.inr ⟨(hw _ (List.mem_of_getElem? (i := 45) rfl)), rfl, hnm⟩) (hw _ (List.mem_of_getElem? (i := 33) rfl)) (ty := .float) (by decide) rfl rfl (g := (mkF m 6 #[.val (.ref a_1), .val (.float x_2)] [(.float x_2), (.ref a_1)])) rfl rfl (hb hby own_d7_6)
  have z5 := W4.size
  have K4 : Keep h0 h4 [a_1] := K0.wr W4 (Or.inl (List.mem_of_getElem? (i := 0) rfl))
  have N4 := Fr.snoc X4 N3 (by omega : n0 ≤ a_1)
  have Fw4 : Fld Z h4 a_1 "java/lang/Float" "value" "F" (.float x_2) := Fld.same W4 pr_F_a_1_value
  refine own_go (fun _ k => st4 _ k) ?_
  show own_Go _ _ _ _ T4 (mkF m 9 #[.val (.ref a_1), .val (.float x_2)] [])
  obtain ⟨fs, hr, hrun, hended, hW, hsame⟩ := X4.leave (v := none) (fun _ => rfl)
  refine ⟨_, _, X4.returnOut hx Bd.returns (hb hby own_d7_9) hr, hrun, hended, _, _, rfl, ?_, ⟨_, rfl⟩, hW, hsame.mono (by rw [y3]; decide) (by rw [z3]; decide)⟩
  show own_Q7 Z a_1 x_2 w_value_a_1 h0 n0 _ T4.heap _
  rw [e4]
  have f7 : Exa Z h4 a_1 "java/lang/Float" := (pr_E_a_1.wr W4)
  exact ⟨rfl, N4, K4, f7, Fw4⟩
theorem own_d6_0 : decode jdk_118_method_4_code 0 = .ok (.new 1, 3) := by decide +kernel
theorem own_d6_3 : decode jdk_118_method_4_code 3 = .ok (.dup, 1) := by decide +kernel
theorem own_d6_4 : decode jdk_118_method_4_code 4 = .ok (.fload_n 0, 1) := by decide +kernel
theorem own_d6_5 : decode jdk_118_method_4_code 5 = .ok (.invokespecial 42, 3) := by decide +kernel
theorem own_d6_8 : decode jdk_118_method_4_code 8 = .ok (.areturn, 1) := by decide +kernel
theorem own_ef_own_rm6 (m : MethodId) (x0 : UInt32) : entryFrame m #[(.float x0)] 1 = mkF m 0 #[.val (.float x0)] [] := by first | (simp [entryFrame, mkF, argsToLocals, Value.category]; done) | rfl
def own_Q6 (Z : State) (x_1 : UInt32) (h0 : Heap) (n0 : Nat) (v : Option Value) (h : Heap) (L : List Loc) : Prop := ∃ (x_0 : Addr), v = some (.ref x_0) ∧ Fr n0 L ∧ Keep h0 h [] ∧ Exa Z h x_0 "java/lang/Float" ∧ Fld Z h x_0 "java/lang/Float" "value" "F" (.float x_1) ∧ (h0.size ≤ x_0)
set_option maxRecDepth 65536 in
set_option maxHeartbeats 40000000 in
theorem own_rm6 (l : Launch) (Z : State) (a0 : Array Value) (hw : ∀ d ∈ tables_1, d.before a0 Z = true) (ws : List Jvm.Cond) (x_1 : UInt32) (h0 : Heap) (n0 : Nat) (Z0 : n0 ≤ h0.size) :
    MetFree l (⟨"java/lang/Float", "valueOf", "(F)Ljava/lang/Float;"⟩ : MethodName) (head1 (Jvm.Cond.code (⟨"java/lang/Float", "valueOf", "(F)Ljava/lang/Float;"⟩ : MethodName) jdk_118_method_4_code 1 (some (.object "java/lang/Float")) :: ws) ({ frames := 3, cells := 1, slots := 1, locals := 38 } : Room)) (fun a U => a = #[(.float x_1)] ∧ Z.Warmed39 U.vm ∧ U.heap = h0) (fun _ _ _ _ _ => True) (fun _ U o U' => ∃ v L, o = .returned v ∧ own_Q6 Z x_1 h0 n0 v U'.heap L ∧ FrameEnd U o U' L ({ frames := 3, cells := 1, slots := 1, locals := 38 } : Room).cells ({ frames := 3, cells := 1, slots := 1, locals := 38 } : Room).slots) := by
  refine MetFree.of_bodySF (by decide +kernel) hisR ?_
  intro p e s m args below meth c s₁ Bd hml0 hP hK
  obtain ⟨rfl, hZ, hh⟩ := hP
  have hx := Bd.exec
  have hby := Bd.bytes
  have hml : c.maxLocals = 1 := hml0
  have hown : s.vm.findClass "java/lang/Float" = some m.cls := findClass_of_methodNamed Bd.named
  have hnm := (name_of_methodNamed Bd.named Bd.method).1
  have X0 : Stand p l e ({ frames := 3, cells := 1, slots := 1, locals := 38 } : Room) s m #[(.float x_1)] below meth c s₁ [] 0 0 := Stand.of_body Bd
  have e0 : s₁.heap = h0 := by rw [← hh, Bd.state]; rfl
  have N0 := Fr.nil n0
  have w_30 := hw _ (List.mem_of_getElem? (i := 30) rfl)
  have w_36 := hw _ (List.mem_of_getElem? (i := 36) rfl)
  have z0 : n0 ≤ h0.size := Z0
  have K0 : Keep h0 h0 [] := Keep.refl h0 _
  show own_Go p.tables e below (fun t o => t.status = .running ∧ Ended t below o ∧ ∃ v L, o = .returned v ∧ own_Q6 Z x_1 h0 n0 v t.heap L ∧ FrameEnd s o t L ({ frames := 3, cells := 1, slots := 1, locals := 38 } : Room).cells ({ frames := 3, cells := 1, slots := 1, locals := 38 } : Room).slots) s₁ (entryFrame m #[(.float x_1)] 1)
  rw [own_ef_own_rm6 m x_1]
  show own_Go _ _ _ _ s₁ (mkF m 0 #[.val (.float x_1)] [])
  obtain ⟨T1, h1, X1, e1, E1, A1, D1, Y1, st1⟩ := newO X0 hx hZ hown (hw _ (List.mem_of_getElem? (i := 32) rfl)) (hw _ (List.mem_of_getElem? (i := 33) rfl)) w_30 e0 (g := (mkF m 0 #[.val (.float x_1)] [])) rfl (hb hby own_d6_0) (by decide) (by decide)
  obtain ⟨b1, g1⟩ : ∃ z, z = h0.size := ⟨_, rfl⟩
  rw [← g1] at A1 D1 Y1 st1
  have z2 := E1.1
  have lt_b1 := own_lt A1.lt
  have K1 : Keep h0 h1 [] := K0.ext E1
  have F_value_b1 : Fld Z h1 b1 "java/lang/Float" "value" "F" (.float (0 : UInt32)) := D1 (Or.inr (hw _ (List.mem_of_getElem? (i := 45) rfl))) (ty := .float) (by decide)
  refine own_go (fun _ k => st1 _ k) ?_
  show own_Go _ _ _ _ T1 (mkF m 3 #[.val (.float x_1)] [(.ref b1)])
  refine own_go (fun _ k => XS.dup X1.here hx rfl (hb hby own_d6_3) rfl rfl k) ?_
  show own_Go _ _ _ _ T1 (mkF m 4 #[.val (.float x_1)] [(.ref b1), (.ref b1)])
  refine own_go (fun _ k => XS.floadN X1.here hx rfl (hb hby own_d6_4) rfl k) ?_
  show own_Go _ _ _ _ T1 (mkF m 5 #[.val (.float x_1)] [(.float x_1), (.ref b1), (.ref b1)])
  obtain ⟨_, _, ⟨T3, L3, k3, n3⟩, -, X3, ⟨Lc3, hQ3, l3, y3, z3⟩, st3⟩ := X1.specialBack hx (y := (⟨"java/lang/Float", "<init>", "(F)V"⟩ : MethodName)) rfl hown (mvT hZ (hw _ (List.mem_of_getElem? (i := 34) rfl))) (mvT hZ (hw _ (List.mem_of_getElem? (i := 35) rfl))) (mvT hZ w_36) (by decide) (backOf (W := 1) (own_rm7 l Z a0 hw [] b1 x_1 (0 : UInt32) h1 n0 (by omega) A1 F_value_b1 (by omega)) hZ w_36 w_30 (by decide) (by decide)) (g := (mkF m 5 #[.val (.float x_1)] [(.float x_1), (.ref b1), (.ref b1)])) rfl (by rw [hml]; rfl) (Steps.refl _) (a := b1) (argsL := [(.float x_1)]) (rest := [(.ref b1)]) (lenOf own_pd1 rfl) rfl (by show 2 * 0 + _ ≤ _; exact Nat.le_of_eq rfl) (hb hby own_d6_5) (fun _ _ => ⟨rfl, e1, (by decide : 1 + 0 ≤ _), (by decide : 1 + 0 ≤ _)⟩)
  dsimp only [Pt.U, Pt.locs, Pt.cells, Pt.slots] at X3 l3 y3 z3 st3 hQ3
  have y3 : k3 = 1 := y3
  have z3 : n3 = 1 := z3
  obtain ⟨rfl, N3q, K3q, f4, f5⟩ := hQ3
  have N3 : Fr n0 L3 := by rw [l3]; exact Fr.app N0 N3q
  have z6 := K3q.1
  have K3 : Keep h0 T3.heap [] := K1.trans K3q (allS (Or.inr (by omega)) all0)
  have z7 := own_lt f4.lt
  have z8 := own_lt f5.lt
  refine own_go (fun _ k => st3.trans k) ?_
  show own_Go _ _ _ _ T3 (mkF m 8 #[.val (.float x_1)] [(.ref b1)])
  obtain ⟨fs, hr, hrun, hended, hW, hsame⟩ := X3.leave (v := some (.ref b1)) (fun h => by rw [Bd.returns] at h; cases h)
  refine ⟨_, _, retOut X3 hx Bd.returns rfl (Or.inr (Or.inr (Or.inr (Or.inr ⟨rfl, rfl, rfl⟩)))) (hb hby own_d6_8) hr, hrun, hended, _, _, rfl, ?_, ⟨_, rfl⟩, hW, hsame.mono (by rw [y3]; decide) (by rw [z3]; decide)⟩
  exact ⟨b1, rfl, N3, K3, f4, f5, (by omega)⟩
theorem own_d10_0 : decode jdk_117_method_9_code 0 = .ok (.aload_n 0, 1) := by decide +kernel
theorem own_d10_1 : decode jdk_117_method_9_code 1 = .ok (.invokespecial 113, 3) := by decide +kernel
theorem own_d10_4 : decode jdk_117_method_9_code 4 = .ok (.aload_n 0, 1) := by decide +kernel
theorem own_d10_5 : decode jdk_117_method_9_code 5 = .ok (.dload_n 1, 1) := by decide +kernel
theorem own_d10_6 : decode jdk_117_method_9_code 6 = .ok (.putfield 118, 3) := by decide +kernel
theorem own_d10_9 : decode jdk_117_method_9_code 9 = .ok (.return_, 1) := by decide +kernel
theorem own_ef_own_rm10 (m : MethodId) (x0 : Addr) (x1 : UInt64) : entryFrame m #[(.ref x0), (.double x1)] 3 = mkF m 0 #[.val (.ref x0), .val (.double x1), .second] [] := by first | (simp [entryFrame, mkF, argsToLocals, Value.category]; done) | rfl
def own_Q10 (Z : State) (a_1 : Addr) (x_2 : UInt64) (w_value_a_1 : UInt64) (h0 : Heap) (n0 : Nat) (v : Option Value) (h : Heap) (L : List Loc) : Prop := v = none ∧ Fr n0 L ∧ Keep h0 h [a_1] ∧ Exa Z h a_1 "java/lang/Double" ∧ Fld Z h a_1 "java/lang/Double" "value" "D" (.double x_2)
set_option maxRecDepth 65536 in
set_option maxHeartbeats 40000000 in
theorem own_rm10 (l : Launch) (Z : State) (a0 : Array Value) (hw : ∀ d ∈ tables_1, d.before a0 Z = true) (ws : List Jvm.Cond) (a_1 : Addr) (x_2 : UInt64) (w_value_a_1 : UInt64) (h0 : Heap) (n0 : Nat) (Z0 : n0 ≤ h0.size) (pr_E_a_1 : Exa Z h0 a_1 "java/lang/Double") (pr_F_a_1_value : Fld Z h0 a_1 "java/lang/Double" "value" "D" (.double w_value_a_1)) (gw_a_1 : n0 ≤ a_1) :
    MetFree l (⟨"java/lang/Double", "<init>", "(D)V"⟩ : MethodName) (head1 (Jvm.Cond.code (⟨"java/lang/Double", "<init>", "(D)V"⟩ : MethodName) jdk_117_method_9_code 3 none :: ws) ({ frames := 2, cells := 0, slots := 0, locals := 24 } : Room)) (fun a U => a = #[(.ref a_1), (.double x_2)] ∧ Z.Warmed39 U.vm ∧ U.heap = h0) (fun _ _ _ _ _ => True) (fun _ U o U' => ∃ v L, o = .returned v ∧ own_Q10 Z a_1 x_2 w_value_a_1 h0 n0 v U'.heap L ∧ FrameEnd U o U' L ({ frames := 2, cells := 0, slots := 0, locals := 24 } : Room).cells ({ frames := 2, cells := 0, slots := 0, locals := 24 } : Room).slots) := by
  refine MetFree.of_bodySF (plainFor_of_name own_pn3) hisR ?_
  intro p e s m args below meth c s₁ Bd hml0 hP hK
  obtain ⟨rfl, hZ, hh⟩ := hP
  have hx := Bd.exec
  have hby := Bd.bytes
  have hml : c.maxLocals = 3 := hml0
  have hown : s.vm.findClass "java/lang/Double" = some m.cls := findClass_of_methodNamed Bd.named
  have hnm := (name_of_methodNamed Bd.named Bd.method).1
  have X0 : Stand p l e ({ frames := 2, cells := 0, slots := 0, locals := 24 } : Room) s m #[(.ref a_1), (.double x_2)] below meth c s₁ [] 0 0 := Stand.of_body Bd
  have e0 : s₁.heap = h0 := by rw [← hh, Bd.state]; rfl
  have N0 := Fr.nil n0
  have w_42 := hw _ (List.mem_of_getElem? (i := 42) rfl)
  have z0 : n0 ≤ h0.size := Z0
  have z1 := own_lt pr_E_a_1.lt
  have z2 := own_lt pr_F_a_1_value.lt
  have K0 : Keep h0 h0 [a_1] := Keep.refl h0 _
  show own_Go p.tables e below (fun t o => t.status = .running ∧ Ended t below o ∧ ∃ v L, o = .returned v ∧ own_Q10 Z a_1 x_2 w_value_a_1 h0 n0 v t.heap L ∧ FrameEnd s o t L ({ frames := 2, cells := 0, slots := 0, locals := 24 } : Room).cells ({ frames := 2, cells := 0, slots := 0, locals := 24 } : Room).slots) s₁ (entryFrame m #[(.ref a_1), (.double x_2)] 3)
  rw [own_ef_own_rm10 m a_1 x_2]
  show own_Go _ _ _ _ s₁ (mkF m 0 #[.val (.ref a_1), .val (.double x_2), .second] [])
  refine own_go (fun _ k => XS.aloadN X0.here hx rfl (hb hby own_d10_0) rfl rfl k) ?_
  show own_Go _ _ _ _ s₁ (mkF m 1 #[.val (.ref a_1), .val (.double x_2), .second] [(.ref a_1)])
  obtain ⟨_, _, ⟨T3, L3, k3, n3⟩, -, X3, ⟨Lc3, hQ3, l3, y3, z3⟩, st3⟩ := X0.specialBack hx (y := (⟨"java/lang/Number", "<init>", "()V"⟩ : MethodName)) rfl hown (mvT hZ (hw _ (List.mem_of_getElem? (i := 59) rfl))) (mvT hZ (hw _ (List.mem_of_getElem? (i := 38) rfl))) (mvT hZ w_42) (by decide) (backOf (W := 0) (own_rm8 l Z a0 hw [] a_1  h0 n0 (by omega) ) hZ w_42 (hw _ (List.mem_of_getElem? (i := 41) rfl)) (by decide) (by decide)) (g := (mkF m 1 #[.val (.ref a_1), .val (.double x_2), .second] [(.ref a_1)])) rfl (by rw [hml]; rfl) (Steps.refl _) (a := a_1) (argsL := []) (rest := []) (lenOf own_pd0 rfl) rfl (by show 2 * 0 + _ ≤ _; exact Nat.le_of_eq rfl) (hb hby own_d10_1) (fun _ _ => ⟨rfl, e0, (by decide : 0 + 0 ≤ _), (by decide : 0 + 0 ≤ _)⟩)
  dsimp only [Pt.U, Pt.locs, Pt.cells, Pt.slots] at X3 l3 y3 z3 st3 hQ3
  have y3 : k3 = 0 := y3
  have z3 : n3 = 0 := z3
  obtain ⟨rfl, N3q, e3⟩ := hQ3
  have N3 : Fr n0 L3 := by rw [l3]; exact Fr.app N0 N3q
  refine own_go (fun _ k => st3.trans k) ?_
  show own_Go _ _ _ _ T3 (mkF m 4 #[.val (.ref a_1), .val (.double x_2), .second] [])
  refine own_go (fun _ k => XS.aloadN X3.here hx rfl (hb hby own_d10_4) rfl rfl k) ?_
  show own_Go _ _ _ _ T3 (mkF m 5 #[.val (.ref a_1), .val (.double x_2), .second] [(.ref a_1)])
  refine own_go (fun _ k => XS.dloadN X3.here hx rfl (hb hby own_d10_5) rfl k) ?_
  show own_Go _ _ _ _ T3 (mkF m 6 #[.val (.ref a_1), .val (.double x_2), .second] [(.double x_2), (.ref a_1)])
  obtain ⟨T4, h4, X4, e4, W4, st4⟩ := putF X3 hx hZ hown (host := "") (Or.inl (hw _ (List.mem_of_getElem? (i := 61) rfl))) Via.refl e3 pr_F_a_1_value pr_E_a_1 (Or.inr ⟨(hw _ (List.mem_of_getElem? (i := 62) rfl)), rfl, hnm⟩) (hw _ (List.mem_of_getElem? (i := 55) rfl)) (ty := .double) (by decide) rfl rfl (g := (mkF m 6 #[.val (.ref a_1), .val (.double x_2), .second] [(.double x_2), (.ref a_1)])) rfl rfl (hb hby own_d10_6)
  have z5 := W4.size
  have K4 : Keep h0 h4 [a_1] := K0.wr W4 (Or.inl (List.mem_of_getElem? (i := 0) rfl))
  have N4 := Fr.snoc X4 N3 (by omega : n0 ≤ a_1)
  have Fw4 : Fld Z h4 a_1 "java/lang/Double" "value" "D" (.double x_2) := Fld.same W4 pr_F_a_1_value
  refine own_go (fun _ k => st4 _ k) ?_
  show own_Go _ _ _ _ T4 (mkF m 9 #[.val (.ref a_1), .val (.double x_2), .second] [])
  obtain ⟨fs, hr, hrun, hended, hW, hsame⟩ := X4.leave (v := none) (fun _ => rfl)
  refine ⟨_, _, X4.returnOut hx Bd.returns (hb hby own_d10_9) hr, hrun, hended, _, _, rfl, ?_, ⟨_, rfl⟩, hW, hsame.mono (by rw [y3]; decide) (by rw [z3]; decide)⟩
  show own_Q10 Z a_1 x_2 w_value_a_1 h0 n0 _ T4.heap _
  rw [e4]
  have f7 : Exa Z h4 a_1 "java/lang/Double" := (pr_E_a_1.wr W4)
  exact ⟨rfl, N4, K4, f7, Fw4⟩
theorem own_d9_0 : decode jdk_117_method_4_code 0 = .ok (.new 1, 3) := by decide +kernel
theorem own_d9_3 : decode jdk_117_method_4_code 3 = .ok (.dup, 1) := by decide +kernel
theorem own_d9_4 : decode jdk_117_method_4_code 4 = .ok (.dload_n 0, 1) := by decide +kernel
theorem own_d9_5 : decode jdk_117_method_4_code 5 = .ok (.invokespecial 105, 3) := by decide +kernel
theorem own_d9_8 : decode jdk_117_method_4_code 8 = .ok (.areturn, 1) := by decide +kernel
theorem own_ef_own_rm9 (m : MethodId) (x0 : UInt64) : entryFrame m #[(.double x0)] 2 = mkF m 0 #[.val (.double x0), .second] [] := by first | (simp [entryFrame, mkF, argsToLocals, Value.category]; done) | rfl
def own_Q9 (Z : State) (x_1 : UInt64) (h0 : Heap) (n0 : Nat) (v : Option Value) (h : Heap) (L : List Loc) : Prop := ∃ (x_0 : Addr), v = some (.ref x_0) ∧ Fr n0 L ∧ Keep h0 h [] ∧ Exa Z h x_0 "java/lang/Double" ∧ Fld Z h x_0 "java/lang/Double" "value" "D" (.double x_1) ∧ (h0.size ≤ x_0)
set_option maxRecDepth 65536 in
set_option maxHeartbeats 40000000 in
theorem own_rm9 (l : Launch) (Z : State) (a0 : Array Value) (hw : ∀ d ∈ tables_1, d.before a0 Z = true) (ws : List Jvm.Cond) (x_1 : UInt64) (h0 : Heap) (n0 : Nat) (Z0 : n0 ≤ h0.size) :
    MetFree l (⟨"java/lang/Double", "valueOf", "(D)Ljava/lang/Double;"⟩ : MethodName) (head1 (Jvm.Cond.code (⟨"java/lang/Double", "valueOf", "(D)Ljava/lang/Double;"⟩ : MethodName) jdk_117_method_4_code 2 (some (.object "java/lang/Double")) :: ws) ({ frames := 3, cells := 1, slots := 1, locals := 39 } : Room)) (fun a U => a = #[(.double x_1)] ∧ Z.Warmed39 U.vm ∧ U.heap = h0) (fun _ _ _ _ _ => True) (fun _ U o U' => ∃ v L, o = .returned v ∧ own_Q9 Z x_1 h0 n0 v U'.heap L ∧ FrameEnd U o U' L ({ frames := 3, cells := 1, slots := 1, locals := 39 } : Room).cells ({ frames := 3, cells := 1, slots := 1, locals := 39 } : Room).slots) := by
  refine MetFree.of_bodySF (plainFor_of_name own_pn3) hisR ?_
  intro p e s m args below meth c s₁ Bd hml0 hP hK
  obtain ⟨rfl, hZ, hh⟩ := hP
  have hx := Bd.exec
  have hby := Bd.bytes
  have hml : c.maxLocals = 2 := hml0
  have hown : s.vm.findClass "java/lang/Double" = some m.cls := findClass_of_methodNamed Bd.named
  have hnm := (name_of_methodNamed Bd.named Bd.method).1
  have X0 : Stand p l e ({ frames := 3, cells := 1, slots := 1, locals := 39 } : Room) s m #[(.double x_1)] below meth c s₁ [] 0 0 := Stand.of_body Bd
  have e0 : s₁.heap = h0 := by rw [← hh, Bd.state]; rfl
  have N0 := Fr.nil n0
  have w_52 := hw _ (List.mem_of_getElem? (i := 52) rfl)
  have w_58 := hw _ (List.mem_of_getElem? (i := 58) rfl)
  have z0 : n0 ≤ h0.size := Z0
  have K0 : Keep h0 h0 [] := Keep.refl h0 _
  show own_Go p.tables e below (fun t o => t.status = .running ∧ Ended t below o ∧ ∃ v L, o = .returned v ∧ own_Q9 Z x_1 h0 n0 v t.heap L ∧ FrameEnd s o t L ({ frames := 3, cells := 1, slots := 1, locals := 39 } : Room).cells ({ frames := 3, cells := 1, slots := 1, locals := 39 } : Room).slots) s₁ (entryFrame m #[(.double x_1)] 2)
  rw [own_ef_own_rm9 m x_1]
  show own_Go _ _ _ _ s₁ (mkF m 0 #[.val (.double x_1), .second] [])
  obtain ⟨T1, h1, X1, e1, E1, A1, D1, Y1, st1⟩ := newO X0 hx hZ hown (hw _ (List.mem_of_getElem? (i := 54) rfl)) (hw _ (List.mem_of_getElem? (i := 55) rfl)) w_52 e0 (g := (mkF m 0 #[.val (.double x_1), .second] [])) rfl (hb hby own_d9_0) (by decide) (by decide)
  obtain ⟨b1, g1⟩ : ∃ z, z = h0.size := ⟨_, rfl⟩
  rw [← g1] at A1 D1 Y1 st1
  have z2 := E1.1
  have lt_b1 := own_lt A1.lt
  have K1 : Keep h0 h1 [] := K0.ext E1
  have F_value_b1 : Fld Z h1 b1 "java/lang/Double" "value" "D" (.double (0 : UInt64)) := D1 (Or.inr (hw _ (List.mem_of_getElem? (i := 62) rfl))) (ty := .double) (by decide)
  refine own_go (fun _ k => st1 _ k) ?_
  show own_Go _ _ _ _ T1 (mkF m 3 #[.val (.double x_1), .second] [(.ref b1)])
  refine own_go (fun _ k => XS.dup X1.here hx rfl (hb hby own_d9_3) rfl rfl k) ?_
  show own_Go _ _ _ _ T1 (mkF m 4 #[.val (.double x_1), .second] [(.ref b1), (.ref b1)])
  refine own_go (fun _ k => XS.dloadN X1.here hx rfl (hb hby own_d9_4) rfl k) ?_
  show own_Go _ _ _ _ T1 (mkF m 5 #[.val (.double x_1), .second] [(.double x_1), (.ref b1), (.ref b1)])
  obtain ⟨_, _, ⟨T3, L3, k3, n3⟩, -, X3, ⟨Lc3, hQ3, l3, y3, z3⟩, st3⟩ := X1.specialBack hx (y := (⟨"java/lang/Double", "<init>", "(D)V"⟩ : MethodName)) rfl hown (mvT hZ (hw _ (List.mem_of_getElem? (i := 56) rfl))) (mvT hZ (hw _ (List.mem_of_getElem? (i := 57) rfl))) (mvT hZ w_58) (by decide) (backOf (W := 1) (own_rm10 l Z a0 hw [] b1 x_1 (0 : UInt64) h1 n0 (by omega) A1 F_value_b1 (by omega)) hZ w_58 w_52 (by decide) (by decide)) (g := (mkF m 5 #[.val (.double x_1), .second] [(.double x_1), (.ref b1), (.ref b1)])) rfl (by rw [hml]; rfl) (Steps.refl _) (a := b1) (argsL := [(.double x_1)]) (rest := [(.ref b1)]) (lenOf own_pd2 rfl) rfl (by show 2 * 0 + _ ≤ _; exact Nat.le_of_eq rfl) (hb hby own_d9_5) (fun _ _ => ⟨rfl, e1, (by decide : 1 + 0 ≤ _), (by decide : 1 + 0 ≤ _)⟩)
  dsimp only [Pt.U, Pt.locs, Pt.cells, Pt.slots] at X3 l3 y3 z3 st3 hQ3
  have y3 : k3 = 1 := y3
  have z3 : n3 = 1 := z3
  obtain ⟨rfl, N3q, K3q, f4, f5⟩ := hQ3
  have N3 : Fr n0 L3 := by rw [l3]; exact Fr.app N0 N3q
  have z6 := K3q.1
  have K3 : Keep h0 T3.heap [] := K1.trans K3q (allS (Or.inr (by omega)) all0)
  have z7 := own_lt f4.lt
  have z8 := own_lt f5.lt
  refine own_go (fun _ k => st3.trans k) ?_
  show own_Go _ _ _ _ T3 (mkF m 8 #[.val (.double x_1), .second] [(.ref b1)])
  obtain ⟨fs, hr, hrun, hended, hW, hsame⟩ := X3.leave (v := some (.ref b1)) (fun h => by rw [Bd.returns] at h; cases h)
  refine ⟨_, _, retOut X3 hx Bd.returns rfl (Or.inr (Or.inr (Or.inr (Or.inr ⟨rfl, rfl, rfl⟩)))) (hb hby own_d9_8) hr, hrun, hended, _, _, rfl, ?_, ⟨_, rfl⟩, hW, hsame.mono (by rw [y3]; decide) (by rw [z3]; decide)⟩
  exact ⟨b1, rfl, N3, K3, f4, f5, (by omega)⟩
theorem own_d5_0 : decode prog_19_method_2_code 0 = .ok (.aload_n 0, 1) := by decide +kernel
theorem own_d5_1 : decode prog_19_method_2_code 1 = .ok (.getfield 16, 3) := by decide +kernel
theorem own_d5_4 : decode prog_19_method_2_code 4 = .ok (.bipush 32, 2) := by decide +kernel
theorem own_d5_6 : decode prog_19_method_2_code 6 = .ok (.if_icmp .ne 12, 3) := by decide +kernel
theorem own_d5_9 : decode prog_19_method_2_code 9 = .ok (.dload_n 1, 1) := by decide +kernel
theorem own_d5_10 : decode prog_19_method_2_code 10 = .ok (.d2f, 1) := by decide +kernel
theorem own_d5_11 : decode prog_19_method_2_code 11 = .ok (.invokestatic 22, 3) := by decide +kernel
theorem own_d5_14 : decode prog_19_method_2_code 14 = .ok (.astore_n 3, 1) := by decide +kernel
theorem own_d5_15 : decode prog_19_method_2_code 15 = .ok (.goto 8, 3) := by decide +kernel
theorem own_d5_23 : decode prog_19_method_2_code 23 = .ok (.aload_n 3, 1) := by decide +kernel
theorem own_d5_24 : decode prog_19_method_2_code 24 = .ok (.areturn, 1) := by decide +kernel
theorem own_ef_own_rm5_32 (m : MethodId) (x0 : Addr) (x1 : UInt64) : entryFrame m #[(.ref x0), (.double x1)] 4 = mkF m 0 #[.val (.ref x0), .val (.double x1), .second, .unset] [] := by first | (simp [entryFrame, mkF, argsToLocals, Value.category]; done) | rfl
def own_Q5_32 (Z : State) (a_1 : Addr) (x_2 : UInt64) (h0 : Heap) (n0 : Nat) (v : Option Value) (h : Heap) (L : List Loc) : Prop := ∃ (x : Addr), v = some (.ref x) ∧ Fr n0 L ∧ Keep h0 h [] ∧ Exa Z h x "java/lang/Float" ∧ (h0.size ≤ x)
set_option maxRecDepth 65536 in
set_option maxHeartbeats 40000000 in
theorem own_rm5_32 (l : Launch) (Z : State) (a0 : Array Value) (hw : ∀ d ∈ tables_1, d.before a0 Z = true) (ws : List Jvm.Cond) (a_1 : Addr) (x_2 : UInt64) (h0 : Heap) (n0 : Nat) (Z0 : n0 ≤ h0.size) (pr_F_a_1_bits : Fld Z h0 a_1 "com/example/tessera/tessera/FloatType" "bits" "I" (.int (32 : Int32))) (hg_nn : Jvm.Free.Fl.NoNaN64 x_2) :
    MetFree l (⟨"com/example/tessera/tessera/FloatType", "box", "(D)Ljava/lang/Object;"⟩ : MethodName) (head1 (Jvm.Cond.code (⟨"com/example/tessera/tessera/FloatType", "box", "(D)Ljava/lang/Object;"⟩ : MethodName) prog_19_method_2_code 4 (some (.object "java/lang/Object")) :: ws) ({ frames := 4, cells := 1, slots := 1, locals := 50 } : Room)) (fun a U => a = #[(.ref a_1), (.double x_2)] ∧ Z.Warmed39 U.vm ∧ U.heap = h0) (fun _ _ _ _ _ => True) (fun _ U o U' => ∃ v L, o = .returned v ∧ own_Q5_32 Z a_1 x_2 h0 n0 v U'.heap L ∧ FrameEnd U o U' L ({ frames := 4, cells := 1, slots := 1, locals := 50 } : Room).cells ({ frames := 4, cells := 1, slots := 1, locals := 50 } : Room).slots) := by
  refine MetFree.of_bodySF (plainFor_of_name own_pn2) hisR ?_
  intro p e s m args below meth c s₁ Bd hml0 hP hK
  obtain ⟨rfl, hZ, hh⟩ := hP
  have hx := Bd.exec
  have hby := Bd.bytes
  have hml : c.maxLocals = 4 := hml0
  have hown : s.vm.findClass "com/example/tessera/tessera/FloatType" = some m.cls := findClass_of_methodNamed Bd.named
  have hnm := (name_of_methodNamed Bd.named Bd.method).1
  have X0 : Stand p l e ({ frames := 4, cells := 1, slots := 1, locals := 50 } : Room) s m #[(.ref a_1), (.double x_2)] below meth c s₁ [] 0 0 := Stand.of_body Bd
  have e0 : s₁.heap = h0 := by rw [← hh, Bd.state]; rfl
  have N0 := Fr.nil n0
  have w_30 := hw _ (List.mem_of_getElem? (i := 30) rfl)
  have w_31 := hw _ (List.mem_of_getElem? (i := 31) rfl)
  have z0 : n0 ≤ h0.size := Z0
  have z1 := own_lt pr_F_a_1_bits.lt
  have K0 : Keep h0 h0 [] := Keep.refl h0 _
  show own_Go p.tables e below (fun t o => t.status = .running ∧ Ended t below o ∧ ∃ v L, o = .returned v ∧ own_Q5_32 Z a_1 x_2 h0 n0 v t.heap L ∧ FrameEnd s o t L ({ frames := 4, cells := 1, slots := 1, locals := 50 } : Room).cells ({ frames := 4, cells := 1, slots := 1, locals := 50 } : Room).slots) s₁ (entryFrame m #[(.ref a_1), (.double x_2)] 4)
  rw [own_ef_own_rm5_32 m a_1 x_2]
  show own_Go _ _ _ _ s₁ (mkF m 0 #[.val (.ref a_1), .val (.double x_2), .second, .unset] [])
  refine own_go (fun _ k => XS.aloadN X0.here hx rfl (hb hby own_d5_0) rfl rfl k) ?_
  show own_Go _ _ _ _ s₁ (mkF m 1 #[.val (.ref a_1), .val (.double x_2), .second, .unset] [(.ref a_1)])
  obtain ⟨T2, X2, e2, st2⟩ := getF X0 hx hZ hown (host := "") (Or.inl (hw _ (List.mem_of_getElem? (i := 14) rfl))) Via.refl e0 pr_F_a_1_bits (g := (mkF m 1 #[.val (.ref a_1), .val (.double x_2), .second, .unset] [(.ref a_1)])) rfl rfl (hb hby own_d5_1)
  refine own_go (fun _ k => st2 _ k) ?_
  show own_Go _ _ _ _ T2 (mkF m 4 #[.val (.ref a_1), .val (.double x_2), .second, .unset] [(.int (32 : Int32))])
  refine own_go (fun _ k => XS.bipush X2.here hx rfl (hb hby own_d5_4) k) ?_
  show own_Go _ _ _ _ T2 (mkF m 6 #[.val (.ref a_1), .val (.double x_2), .second, .unset] [(.int (32 : Int32)), (.int (32 : Int32))])
  have hc3 : (32 : Int32) = (32 : Int32) := by decide
  refine own_go (fun _ k => XS.icmpNo X2.here hx rfl (hb hby own_d5_6) rfl (Jvm.Free.XT.ii_ne_f hc3) k) ?_
  show own_Go _ _ _ _ T2 (mkF m 9 #[.val (.ref a_1), .val (.double x_2), .second, .unset] [])
  refine own_go (fun _ k => XS.dloadN X2.here hx rfl (hb hby own_d5_9) rfl k) ?_
  show own_Go _ _ _ _ T2 (mkF m 10 #[.val (.ref a_1), .val (.double x_2), .second, .unset] [(.double x_2)])
  refine own_go (fun _ k => XS.d2fS X2.here hx rfl (hb hby own_d5_10) rfl ((Jvm.Free.Fl.noNaN_d2f _).mpr hg_nn) rfl k) ?_
  show own_Go _ _ _ _ T2 (mkF m 11 #[.val (.ref a_1), .val (.double x_2), .second, .unset] [(.float (FP.d2f x_2))])
  obtain ⟨_, _, ⟨T4, L4, k4, n4⟩, -, X4, ⟨Lc4, hQ4, l4, y4, z4⟩, st4⟩ := Jvm.LawKit.callS X2 hx (y := (⟨"java/lang/Float", "valueOf", "(F)Ljava/lang/Float;"⟩ : MethodName)) hown (mvT hZ (hw _ (List.mem_of_getElem? (i := 28) rfl))) (mvT hZ (hw _ (List.mem_of_getElem? (i := 29) rfl))) (mvT hZ w_30) (mvT hZ w_31) (by decide) (backOf (W := 0) (own_rm6 l Z a0 hw [] (FP.d2f x_2)  h0 n0 (by omega) ) hZ w_31 w_30 (by decide) (by decide)) (g := (mkF m 11 #[.val (.ref a_1), .val (.double x_2), .second, .unset] [(.float (FP.d2f x_2))])) rfl (by rw [hml]; rfl) (argsL := [(.float (FP.d2f x_2))]) (rest := []) (lenOf own_pd3 rfl) rfl (by show 2 * 0 + _ ≤ _; exact Nat.le_of_eq rfl) (hb hby own_d5_11) (fun _ _ => ⟨rfl, e2, (by decide : 0 + 1 ≤ _), (by decide : 0 + 1 ≤ _)⟩)
  dsimp only [Pt.U, Pt.locs, Pt.cells, Pt.slots] at X4 l4 y4 z4 st4 hQ4
  have y4 : k4 = 1 := y4
  have z4 : n4 = 1 := z4
  obtain ⟨x_5, rfl, N4q, K4q, f6, f7, f8⟩ := hQ4
  have N4 : Fr n0 L4 := by rw [l4]; exact Fr.app N0 N4q
  have z9 := K4q.1
  have K4 : Keep h0 T4.heap [] := K0.trans K4q all0
  have z10 := own_lt f6.lt
  have z11 := own_lt f7.lt
  refine own_go (fun _ k => st4 _ k) ?_
  show own_Go _ _ _ _ T4 (mkF m 14 #[.val (.ref a_1), .val (.double x_2), .second, .unset] [(.ref x_5)])
  refine own_go (fun _ k => XS.astoreN X4.here hx rfl (hb hby own_d5_14) rfl rfl (l' := #[.val (.ref a_1), .val (.double x_2), .second, .val (.ref x_5)]) rfl k) ?_
  show own_Go _ _ _ _ T4 (mkF m 15 #[.val (.ref a_1), .val (.double x_2), .second, .val (.ref x_5)] [])
  refine own_go (fun _ k => XS.goto X4.here hx rfl (pc0 := 15) (pc' := 23) rfl (hb hby own_d5_15) (by decide) (by decide) k) ?_
  show own_Go _ _ _ _ T4 (mkF m 23 #[.val (.ref a_1), .val (.double x_2), .second, .val (.ref x_5)] [])
  refine own_go (fun _ k => XS.aloadN X4.here hx rfl (hb hby own_d5_23) rfl rfl k) ?_
  show own_Go _ _ _ _ T4 (mkF m 24 #[.val (.ref a_1), .val (.double x_2), .second, .val (.ref x_5)] [(.ref x_5)])
  obtain ⟨fs, hr, hrun, hended, hW, hsame⟩ := X4.leave (v := some (.ref x_5)) (fun h => by rw [Bd.returns] at h; cases h)
  refine ⟨_, _, retOut X4 hx Bd.returns rfl (Or.inr (Or.inr (Or.inr (Or.inr ⟨rfl, rfl, rfl⟩)))) (hb hby own_d5_24) hr, hrun, hended, _, _, rfl, ?_, ⟨_, rfl⟩, hW, hsame.mono (by rw [y4]; decide) (by rw [z4]; decide)⟩
  exact ⟨x_5, rfl, N4, K4, f6, (by omega)⟩
theorem own_d5_18 : decode prog_19_method_2_code 18 = .ok (.dload_n 1, 1) := by decide +kernel
theorem own_d5_19 : decode prog_19_method_2_code 19 = .ok (.invokestatic 28, 3) := by decide +kernel
theorem own_d5_22 : decode prog_19_method_2_code 22 = .ok (.astore_n 3, 1) := by decide +kernel
theorem own_ef_own_rm5_64 (m : MethodId) (x0 : Addr) (x1 : UInt64) : entryFrame m #[(.ref x0), (.double x1)] 4 = mkF m 0 #[.val (.ref x0), .val (.double x1), .second, .unset] [] := by first | (simp [entryFrame, mkF, argsToLocals, Value.category]; done) | rfl
def own_Q5_64 (Z : State) (a_1 : Addr) (x_2 : UInt64) (h0 : Heap) (n0 : Nat) (v : Option Value) (h : Heap) (L : List Loc) : Prop := ∃ (x : Addr), v = some (.ref x) ∧ Fr n0 L ∧ Keep h0 h [] ∧ Exa Z h x "java/lang/Double" ∧ (h0.size ≤ x)
set_option maxRecDepth 65536 in
set_option maxHeartbeats 40000000 in
theorem own_rm5_64 (l : Launch) (Z : State) (a0 : Array Value) (hw : ∀ d ∈ tables_1, d.before a0 Z = true) (ws : List Jvm.Cond) (a_1 : Addr) (x_2 : UInt64) (h0 : Heap) (n0 : Nat) (Z0 : n0 ≤ h0.size) (pr_F_a_1_bits : Fld Z h0 a_1 "com/example/tessera/tessera/FloatType" "bits" "I" (.int (64 : Int32))) (hg_nn : Jvm.Free.Fl.NoNaN64 x_2) :
    MetFree l (⟨"com/example/tessera/tessera/FloatType", "box", "(D)Ljava/lang/Object;"⟩ : MethodName) (head1 (Jvm.Cond.code (⟨"com/example/tessera/tessera/FloatType", "box", "(D)Ljava/lang/Object;"⟩ : MethodName) prog_19_method_2_code 4 (some (.object "java/lang/Object")) :: ws) ({ frames := 4, cells := 1, slots := 1, locals := 52 } : Room)) (fun a U => a = #[(.ref a_1), (.double x_2)] ∧ Z.Warmed39 U.vm ∧ U.heap = h0) (fun _ _ _ _ _ => True) (fun _ U o U' => ∃ v L, o = .returned v ∧ own_Q5_64 Z a_1 x_2 h0 n0 v U'.heap L ∧ FrameEnd U o U' L ({ frames := 4, cells := 1, slots := 1, locals := 52 } : Room).cells ({ frames := 4, cells := 1, slots := 1, locals := 52 } : Room).slots) := by
  refine MetFree.of_bodySF (plainFor_of_name own_pn2) hisR ?_
  intro p e s m args below meth c s₁ Bd hml0 hP hK
  obtain ⟨rfl, hZ, hh⟩ := hP
  have hx := Bd.exec
  have hby := Bd.bytes
  have hml : c.maxLocals = 4 := hml0
  have hown : s.vm.findClass "com/example/tessera/tessera/FloatType" = some m.cls := findClass_of_methodNamed Bd.named
  have hnm := (name_of_methodNamed Bd.named Bd.method).1
  have X0 : Stand p l e ({ frames := 4, cells := 1, slots := 1, locals := 52 } : Room) s m #[(.ref a_1), (.double x_2)] below meth c s₁ [] 0 0 := Stand.of_body Bd
  have e0 : s₁.heap = h0 := by rw [← hh, Bd.state]; rfl
  have N0 := Fr.nil n0
  have w_52 := hw _ (List.mem_of_getElem? (i := 52) rfl)
  have w_53 := hw _ (List.mem_of_getElem? (i := 53) rfl)
  have z0 : n0 ≤ h0.size := Z0
  have z1 := own_lt pr_F_a_1_bits.lt
  have K0 : Keep h0 h0 [] := Keep.refl h0 _
  show own_Go p.tables e below (fun t o => t.status = .running ∧ Ended t below o ∧ ∃ v L, o = .returned v ∧ own_Q5_64 Z a_1 x_2 h0 n0 v t.heap L ∧ FrameEnd s o t L ({ frames := 4, cells := 1, slots := 1, locals := 52 } : Room).cells ({ frames := 4, cells := 1, slots := 1, locals := 52 } : Room).slots) s₁ (entryFrame m #[(.ref a_1), (.double x_2)] 4)
  rw [own_ef_own_rm5_64 m a_1 x_2]
  show own_Go _ _ _ _ s₁ (mkF m 0 #[.val (.ref a_1), .val (.double x_2), .second, .unset] [])
  refine own_go (fun _ k => XS.aloadN X0.here hx rfl (hb hby own_d5_0) rfl rfl k) ?_
  show own_Go _ _ _ _ s₁ (mkF m 1 #[.val (.ref a_1), .val (.double x_2), .second, .unset] [(.ref a_1)])
  obtain ⟨T2, X2, e2, st2⟩ := getF X0 hx hZ hown (host := "") (Or.inl (hw _ (List.mem_of_getElem? (i := 14) rfl))) Via.refl e0 pr_F_a_1_bits (g := (mkF m 1 #[.val (.ref a_1), .val (.double x_2), .second, .unset] [(.ref a_1)])) rfl rfl (hb hby own_d5_1)
  refine own_go (fun _ k => st2 _ k) ?_
  show own_Go _ _ _ _ T2 (mkF m 4 #[.val (.ref a_1), .val (.double x_2), .second, .unset] [(.int (64 : Int32))])
  refine own_go (fun _ k => XS.bipush X2.here hx rfl (hb hby own_d5_4) k) ?_
  show own_Go _ _ _ _ T2 (mkF m 6 #[.val (.ref a_1), .val (.double x_2), .second, .unset] [(.int (32 : Int32)), (.int (64 : Int32))])
  have hc3 : ¬ ((64 : Int32) = (32 : Int32)) := by decide
  refine own_go (fun _ k => XS.icmpYes X2.here hx rfl (pc0 := 6) (pc' := 18) rfl (hb hby own_d5_6) rfl (Jvm.Free.XT.ii_ne_t hc3) (by decide) (by decide) k) ?_
  show own_Go _ _ _ _ T2 (mkF m 18 #[.val (.ref a_1), .val (.double x_2), .second, .unset] [])
  refine own_go (fun _ k => XS.dloadN X2.here hx rfl (hb hby own_d5_18) rfl k) ?_
  show own_Go _ _ _ _ T2 (mkF m 19 #[.val (.ref a_1), .val (.double x_2), .second, .unset] [(.double x_2)])
  obtain ⟨_, _, ⟨T4, L4, k4, n4⟩, -, X4, ⟨Lc4, hQ4, l4, y4, z4⟩, st4⟩ := Jvm.LawKit.callS X2 hx (y := (⟨"java/lang/Double", "valueOf", "(D)Ljava/lang/Double;"⟩ : MethodName)) hown (mvT hZ (hw _ (List.mem_of_getElem? (i := 50) rfl))) (mvT hZ (hw _ (List.mem_of_getElem? (i := 51) rfl))) (mvT hZ w_52) (mvT hZ w_53) (by decide) (backOf (W := 0) (own_rm9 l Z a0 hw [] x_2  h0 n0 (by omega) ) hZ w_53 w_52 (by decide) (by decide)) (g := (mkF m 19 #[.val (.ref a_1), .val (.double x_2), .second, .unset] [(.double x_2)])) rfl (by rw [hml]; rfl) (argsL := [(.double x_2)]) (rest := []) (lenOf own_pd4 rfl) rfl (by show 2 * 0 + _ ≤ _; exact Nat.le_of_eq rfl) (hb hby own_d5_19) (fun _ _ => ⟨rfl, e2, (by decide : 0 + 1 ≤ _), (by decide : 0 + 1 ≤ _)⟩)
  dsimp only [Pt.U, Pt.locs, Pt.cells, Pt.slots] at X4 l4 y4 z4 st4 hQ4
  have y4 : k4 = 1 := y4
  have z4 : n4 = 1 := z4
  obtain ⟨x_5, rfl, N4q, K4q, f6, f7, f8⟩ := hQ4
  have N4 : Fr n0 L4 := by rw [l4]; exact Fr.app N0 N4q
  have z9 := K4q.1
  have K4 : Keep h0 T4.heap [] := K0.trans K4q all0
  have z10 := own_lt f6.lt
  have z11 := own_lt f7.lt
  refine own_go (fun _ k => st4 _ k) ?_
  show own_Go _ _ _ _ T4 (mkF m 22 #[.val (.ref a_1), .val (.double x_2), .second, .unset] [(.ref x_5)])
  refine own_go (fun _ k => XS.astoreN X4.here hx rfl (hb hby own_d5_22) rfl rfl (l' := #[.val (.ref a_1), .val (.double x_2), .second, .val (.ref x_5)]) rfl k) ?_
  show own_Go _ _ _ _ T4 (mkF m 23 #[.val (.ref a_1), .val (.double x_2), .second, .val (.ref x_5)] [])
  refine own_go (fun _ k => XS.aloadN X4.here hx rfl (hb hby own_d5_23) rfl rfl k) ?_
  show own_Go _ _ _ _ T4 (mkF m 24 #[.val (.ref a_1), .val (.double x_2), .second, .val (.ref x_5)] [(.ref x_5)])
  obtain ⟨fs, hr, hrun, hended, hW, hsame⟩ := X4.leave (v := some (.ref x_5)) (fun h => by rw [Bd.returns] at h; cases h)
  refine ⟨_, _, retOut X4 hx Bd.returns rfl (Or.inr (Or.inr (Or.inr (Or.inr ⟨rfl, rfl, rfl⟩)))) (hb hby own_d5_24) hr, hrun, hended, _, _, rfl, ?_, ⟨_, rfl⟩, hW, hsame.mono (by rw [y4]; decide) (by rw [z4]; decide)⟩
  exact ⟨x_5, rfl, N4, K4, f6, (by omega)⟩
theorem own_ef_own_rm0 (m : MethodId) (x0 : Int32) (x1 : Int32) : entryFrame m #[(.int x0), (.int x1)] maxLocals = mkF m 0 #[.val (.int x0), .val (.int x1), .unset, .unset, .unset, .unset, .unset] [] := by first | (simp [entryFrame, mkF, argsToLocals, Value.category, maxLocals]; done) | rfl
def own_Q0 (Z : State) (p_1 : Int32) (p_2 : Int32) (mF : Addr) (mD : Addr) (h0 : Heap) (n0 : Nat) (v : Option Value) (h : Heap) (L : List Loc) : Prop := v = some (.int (1 : Int32)) ∧ Fr n0 L
set_option maxRecDepth 65536 in
set_option maxHeartbeats 40000000 in
theorem own_rm0 (l : Launch) (Z : State) (a0 : Array Value) (hw : ∀ d ∈ tables_1, d.before a0 Z = true) (ws : List Jvm.Cond) (p_1 : Int32) (p_2 : Int32) (mF : Addr) (mD : Addr) (h0 : Heap) (n0 : Nat) (Z0 : n0 ≤ h0.size) (hgF : own_Mir Z "java/lang/Float" mF) (hgD : own_Mir Z "java/lang/Double" mD) (ho_m : own_nes mF mD) :
    MetFree l x (head1 (Jvm.Cond.code x code maxLocals ret :: ws) room_1) (fun a U => a = #[(.int p_1), (.int p_2)] ∧ Z.Warmed39 U.vm ∧ U.heap = h0) (fun _ _ _ _ _ => True) (fun _ U o U' => ∃ v L, o = .returned v ∧ own_Q0 Z p_1 p_2 mF mD h0 n0 v U'.heap L ∧ FrameEnd U o U' L 2 2) := by
  refine MetFree.of_bodySF (plainFor_of_name own_pn4) hisR ?_
  intro p e s m args below meth c s₁ Bd hml0 hP hK
  obtain ⟨rfl, hZ, hh⟩ := hP
  have hx := Bd.exec
  have hby := Bd.bytes
  have hml : c.maxLocals = 7 := hml0
  have hown : s.vm.findClass "com/example/tessera/tessera/FloatTypeValueClassPinLaw" = some m.cls := findClass_of_methodNamed Bd.named
  have hnm := (name_of_methodNamed Bd.named Bd.method).1
  have X0 : Stand p l e room_1 s m #[(.int p_1), (.int p_2)] below meth c s₁ [] 0 0 := Stand.of_body Bd
  have e0 : s₁.heap = h0 := by rw [← hh, Bd.state]; rfl
  have N0 := Fr.nil n0
  have w_0 := hw _ (List.mem_of_getElem? (i := 0) rfl)
  have w_1 := hw _ (List.mem_of_getElem? (i := 1) rfl)
  have w_2 := hw _ (List.mem_of_getElem? (i := 2) rfl)
  have w_3 := hw _ (List.mem_of_getElem? (i := 3) rfl)
  have w_4 := hw _ (List.mem_of_getElem? (i := 4) rfl)
  have w_5 := hw _ (List.mem_of_getElem? (i := 5) rfl)
  have w_15 := hw _ (List.mem_of_getElem? (i := 15) rfl)
  have w_16 := hw _ (List.mem_of_getElem? (i := 16) rfl)
  have w_17 := hw _ (List.mem_of_getElem? (i := 17) rfl)
  have w_18 := hw _ (List.mem_of_getElem? (i := 18) rfl)
  have w_19 := hw _ (List.mem_of_getElem? (i := 19) rfl)
  have w_20 := hw _ (List.mem_of_getElem? (i := 20) rfl)
  have w_23 := hw _ (List.mem_of_getElem? (i := 23) rfl)
  have w_24 := hw _ (List.mem_of_getElem? (i := 24) rfl)
  have w_25 := hw _ (List.mem_of_getElem? (i := 25) rfl)
  have w_26 := hw _ (List.mem_of_getElem? (i := 26) rfl)
  have w_27 := hw _ (List.mem_of_getElem? (i := 27) rfl)
  have w_46 := hw _ (List.mem_of_getElem? (i := 46) rfl)
  have w_47 := hw _ (List.mem_of_getElem? (i := 47) rfl)
  have z0 : n0 ≤ h0.size := Z0
  have K0 : Keep h0 h0 [] := Keep.refl h0 _
  have hm_ := ho_m
  unfold own_nes at hm_
  show own_Go p.tables e below (fun t o => t.status = .running ∧ Ended t below o ∧ ∃ v L, o = .returned v ∧ own_Q0 Z p_1 p_2 mF mD h0 n0 v t.heap L ∧ FrameEnd s o t L 2 2) s₁ (entryFrame m #[(.int p_1), (.int p_2)] maxLocals)
  rw [own_ef_own_rm0 m p_1 p_2]
  show own_Go _ _ _ _ s₁ (mkF m 0 #[.val (.int p_1), .val (.int p_2), .unset, .unset, .unset, .unset, .unset] [])
  refine own_go (fun _ k => XS.iloadN X0.here hx rfl (hb hby at_0) rfl k) ?_
  show own_Go _ _ _ _ s₁ (mkF m 1 #[.val (.int p_1), .val (.int p_2), .unset, .unset, .unset, .unset, .unset] [(.int p_1)])
  refine own_go (fun _ k => XS.iconst X0.here hx rfl (hb hby at_1) k) ?_
  show own_Go _ _ _ _ s₁ (mkF m 2 #[.val (.int p_1), .val (.int p_2), .unset, .unset, .unset, .unset, .unset] [(.int (1 : Int32)), (.int p_1)])
  refine own_go (fun _ k => XS.iand X0.here hx rfl (hb hby at_2) rfl k) ?_
  show own_Go _ _ _ _ s₁ (mkF m 3 #[.val (.int p_1), .val (.int p_2), .unset, .unset, .unset, .unset, .unset] [(.int (p_1 &&& (1 : Int32)))])
  by_cases hc1 : (p_1 &&& (1 : Int32)) = 0
  · refine own_go (fun _ k => XS.ifYes X0.here hx rfl (pc0 := 3) (pc' := 10) rfl (hb hby at_3) rfl (Jvm.Free.XT.i0_eq_t hc1) (by decide) (by decide) k) ?_
    show own_Go _ _ _ _ s₁ (mkF m 10 #[.val (.int p_1), .val (.int p_2), .unset, .unset, .unset, .unset, .unset] [])
    refine own_go (fun _ k => XS.iconst X0.here hx rfl (hb hby at_10) k) ?_
    show own_Go _ _ _ _ s₁ (mkF m 11 #[.val (.int p_1), .val (.int p_2), .unset, .unset, .unset, .unset, .unset] [(.int (0 : Int32))])
    refine own_go (fun _ k => XS.istoreN X0.here hx rfl (hb hby at_11) rfl (l' := #[.val (.int p_1), .val (.int p_2), .val (.int (0 : Int32)), .unset, .unset, .unset, .unset]) rfl k) ?_
    show own_Go _ _ _ _ s₁ (mkF m 12 #[.val (.int p_1), .val (.int p_2), .val (.int (0 : Int32)), .unset, .unset, .unset, .unset] [])
    refine own_go (fun _ k => XS.iloadN X0.here hx rfl (hb hby at_12) rfl k) ?_
    show own_Go _ _ _ _ s₁ (mkF m 13 #[.val (.int p_1), .val (.int p_2), .val (.int (0 : Int32)), .unset, .unset, .unset, .unset] [(.int (0 : Int32))])
    have hc2 : (0 : Int32) = 0 := by decide
    refine own_go (fun _ k => XS.ifYes X0.here hx rfl (pc0 := 13) (pc' := 21) rfl (hb hby at_13) rfl (Jvm.Free.XT.i0_eq_t hc2) (by decide) (by decide) k) ?_
    show own_Go _ _ _ _ s₁ (mkF m 21 #[.val (.int p_1), .val (.int p_2), .val (.int (0 : Int32)), .unset, .unset, .unset, .unset] [])
    refine own_go (fun _ k => XS.bipush X0.here hx rfl (hb hby at_21) k) ?_
    show own_Go _ _ _ _ s₁ (mkF m 23 #[.val (.int p_1), .val (.int p_2), .val (.int (0 : Int32)), .unset, .unset, .unset, .unset] [(.int (32 : Int32))])
    refine own_go (fun _ k => XS.istoreN X0.here hx rfl (hb hby at_23) rfl (l' := #[.val (.int p_1), .val (.int p_2), .val (.int (0 : Int32)), .val (.int (32 : Int32)), .unset, .unset, .unset]) rfl k) ?_
    show own_Go _ _ _ _ s₁ (mkF m 24 #[.val (.int p_1), .val (.int p_2), .val (.int (0 : Int32)), .val (.int (32 : Int32)), .unset, .unset, .unset] [])
    obtain ⟨T3, h3, X3, e3, E3, A3, D3, Y3, st3⟩ := newO X0 hx hZ hown w_0 w_1 w_2 e0 (g := (mkF m 24 #[.val (.int p_1), .val (.int p_2), .val (.int (0 : Int32)), .val (.int (32 : Int32)), .unset, .unset, .unset] [])) rfl (hb hby at_24) (by decide) (by decide)
    obtain ⟨b3, g3⟩ : ∃ z, z = h0.size := ⟨_, rfl⟩
    rw [← g3] at A3 D3 Y3 st3
    have z4 := E3.1
    have lt_b3 := own_lt A3.lt
    have K3 : Keep h0 h3 [] := K0.ext E3
    have F_bits_b3 : Fld Z h3 b3 "com/example/tessera/tessera/FloatType" "bits" "I" (.int (0 : Int32)) := D3 (Or.inr w_15) (ty := .int) (by decide)
    refine own_go (fun _ k => st3 _ k) ?_
    show own_Go _ _ _ _ T3 (mkF m 27 #[.val (.int p_1), .val (.int p_2), .val (.int (0 : Int32)), .val (.int (32 : Int32)), .unset, .unset, .unset] [(.ref b3)])
    refine own_go (fun _ k => XS.dup X3.here hx rfl (hb hby at_27) rfl rfl k) ?_
    show own_Go _ _ _ _ T3 (mkF m 28 #[.val (.int p_1), .val (.int p_2), .val (.int (0 : Int32)), .val (.int (32 : Int32)), .unset, .unset, .unset] [(.ref b3), (.ref b3)])
    refine own_go (fun _ k => XS.iloadN X3.here hx rfl (hb hby at_28) rfl k) ?_
    show own_Go _ _ _ _ T3 (mkF m 29 #[.val (.int p_1), .val (.int p_2), .val (.int (0 : Int32)), .val (.int (32 : Int32)), .unset, .unset, .unset] [(.int (32 : Int32)), (.ref b3), (.ref b3)])
    obtain ⟨_, _, ⟨T5, L5, k5, n5⟩, -, X5, ⟨Lc5, hQ5, l5, y5, z5⟩, st5⟩ := X3.specialBack hx (y := (⟨"com/example/tessera/tessera/FloatType", "<init>", "(I)V"⟩ : MethodName)) rfl hown (mvT hZ w_3) (mvT hZ w_4) (mvT hZ w_5) (by decide) (backOf (W := 1) (own_rm1_32 l Z a0 hw [] b3 (0 : Int32) h3 n0 (by omega) A3 F_bits_b3 (by omega)) hZ w_5 w_2 (by decide) (by decide)) (g := (mkF m 29 #[.val (.int p_1), .val (.int p_2), .val (.int (0 : Int32)), .val (.int (32 : Int32)), .unset, .unset, .unset] [(.int (32 : Int32)), (.ref b3), (.ref b3)])) rfl (by rw [hml]; rfl) (Steps.refl _) (a := b3) (argsL := [(.int (32 : Int32))]) (rest := [(.ref b3)]) (lenOf own_pd5 rfl) rfl (by show 2 * 0 + _ ≤ _; exact Nat.le_of_eq rfl) (hb hby at_29) (fun _ _ => ⟨rfl, e3, (by decide : 1 + 0 ≤ _), (by decide : 1 + 0 ≤ _)⟩)
    dsimp only [Pt.U, Pt.locs, Pt.cells, Pt.slots] at X5 l5 y5 z5 st5 hQ5
    have y5 : k5 = 1 := y5
    have z5 : n5 = 1 := z5
    obtain ⟨rfl, N5q, K5q, f6, f7⟩ := hQ5
    have N5 : Fr n0 L5 := by rw [l5]; exact Fr.app N0 N5q
    have z8 := K5q.1
    have K5 : Keep h0 T5.heap [] := K3.trans K5q (allS (Or.inr (by omega)) all0)
    have z9 := own_lt f6.lt
    have z10 := own_lt f7.lt
    refine own_go (fun _ k => st5.trans k) ?_
    show own_Go _ _ _ _ T5 (mkF m 32 #[.val (.int p_1), .val (.int p_2), .val (.int (0 : Int32)), .val (.int (32 : Int32)), .unset, .unset, .unset] [(.ref b3)])
    refine own_go (fun _ k => XS.astore X5.here hx rfl (hb hby at_32) rfl rfl (l' := #[.val (.int p_1), .val (.int p_2), .val (.int (0 : Int32)), .val (.int (32 : Int32)), .val (.ref b3), .unset, .unset]) rfl k) ?_
    show own_Go _ _ _ _ T5 (mkF m 34 #[.val (.int p_1), .val (.int p_2), .val (.int (0 : Int32)), .val (.int (32 : Int32)), .val (.ref b3), .unset, .unset] [])
    refine own_go (fun _ k => XS.aload X5.here hx rfl (hb hby at_34) rfl rfl k) ?_
    show own_Go _ _ _ _ T5 (mkF m 36 #[.val (.int p_1), .val (.int p_2), .val (.int (0 : Int32)), .val (.int (32 : Int32)), .val (.ref b3), .unset, .unset] [(.ref b3)])
    obtain ⟨cq11, kq11, q11a, q11b, q11c⟩ := isOf hZ rfl f6
    obtain ⟨_, _, ⟨T11, L11, k11, n11⟩, -, X11, ⟨Lc11, hQ11, l11, y11, z11⟩, st11⟩ := X5.virtualBack hx (y := (⟨"com/example/tessera/tessera/FloatType", "valueClass", "()Ljava/lang/Class;"⟩ : MethodName)) (z := (⟨"com/example/tessera/tessera/FloatType", "valueClass", "()Ljava/lang/Class;"⟩ : MethodName)) hown (mvT hZ w_16) (mvT hZ w_17) (notFace_of_selects (args := #[]) (mvT hZ w_19)) (mvT hZ w_19) (mvT hZ w_18) (by decide) (backOf (W := 0) (own_rm4_32 l Z a0 hw [] b3 mF mD T5.heap n0 (by omega) f7 hgF hgD) hZ w_20 w_2 (by decide) (by decide)) q11a q11c (g := (mkF m 36 #[.val (.int p_1), .val (.int p_2), .val (.int (0 : Int32)), .val (.int (32 : Int32)), .val (.ref b3), .unset, .unset] [(.ref b3)])) rfl (by rw [hml]; rfl) (Steps.refl _) (argsL := []) (rest := []) (lenOf own_pd6 rfl) rfl (by show 2 * 0 + _ ≤ _; exact Nat.le_of_eq rfl) (hb hby at_36) (fun _ _ => ⟨rfl, rfl, (by show k5 + _ ≤ _; rw [y5]; decide), (by show n5 + _ ≤ _; rw [z5]; decide)⟩)
    dsimp only [Pt.U, Pt.locs, Pt.cells, Pt.slots] at X11 l11 y11 z11 st11 hQ11
    have y11 : k11 = 1 := own_addeq y11 (congrArg (fun q => q) y5) rfl
    have z11 : n11 = 1 := own_addeq z11 (congrArg (fun q => q) z5) rfl
    obtain ⟨rfl, N11q, e11⟩ := hQ11
    have N11 : Fr n0 L11 := by rw [l11]; exact Fr.app N5 N11q
    refine own_go (fun _ k => st11.trans k) ?_
    show own_Go _ _ _ _ T11 (mkF m 39 #[.val (.int p_1), .val (.int p_2), .val (.int (0 : Int32)), .val (.int (32 : Int32)), .val (.ref b3), .unset, .unset] [(.ref mF)])
    refine own_go (fun _ k => XS.astore X11.here hx rfl (hb hby at_39) rfl rfl (l' := #[.val (.int p_1), .val (.int p_2), .val (.int (0 : Int32)), .val (.int (32 : Int32)), .val (.ref b3), .val (.ref mF), .unset]) rfl k) ?_
    show own_Go _ _ _ _ T11 (mkF m 41 #[.val (.int p_1), .val (.int p_2), .val (.int (0 : Int32)), .val (.int (32 : Int32)), .val (.ref b3), .val (.ref mF), .unset] [])
    refine own_go (fun _ k => XS.aload X11.here hx rfl (hb hby at_41) rfl rfl k) ?_
    show own_Go _ _ _ _ T11 (mkF m 43 #[.val (.int p_1), .val (.int p_2), .val (.int (0 : Int32)), .val (.int (32 : Int32)), .val (.ref b3), .val (.ref mF), .unset] [(.ref b3)])
    refine own_go (fun _ k => XS.iloadN X11.here hx rfl (hb hby at_43) rfl k) ?_
    show own_Go _ _ _ _ T11 (mkF m 44 #[.val (.int p_1), .val (.int p_2), .val (.int (0 : Int32)), .val (.int (32 : Int32)), .val (.ref b3), .val (.ref mF), .unset] [(.int p_2), (.ref b3)])
    refine own_go (fun _ k => XS.i2dS X11.here hx rfl (hb hby at_44) rfl rfl k) ?_
    show own_Go _ _ _ _ T11 (mkF m 45 #[.val (.int p_1), .val (.int p_2), .val (.int (0 : Int32)), .val (.int (32 : Int32)), .val (.ref b3), .val (.ref mF), .unset] [(.double (FP.i2d p_2)), (.ref b3)])
    obtain ⟨cq12, kq12, q12a, q12b, q12c⟩ := isOf hZ e11 f6
    obtain ⟨_, _, ⟨T12, L12, k12, n12⟩, -, X12, ⟨Lc12, hQ12, l12, y12, z12⟩, st12⟩ := X11.virtualBack hx (y := (⟨"com/example/tessera/tessera/FloatType", "box", "(D)Ljava/lang/Object;"⟩ : MethodName)) (z := (⟨"com/example/tessera/tessera/FloatType", "box", "(D)Ljava/lang/Object;"⟩ : MethodName)) hown (mvT hZ w_23) (mvT hZ w_24) (notFace_of_selects (args := #[]) (mvT hZ w_26)) (mvT hZ w_26) (mvT hZ w_25) (by decide) (backOf (W := 0) (own_rm5_32 l Z a0 hw [] b3 (FP.i2d p_2)  T5.heap n0 (by omega) f7 (Jvm.Free.Fl.Fin64.noNaN (Jvm.Free.Fl.i2d_fin _))) hZ w_27 w_2 (by decide) (by decide)) q12a q12c (g := (mkF m 45 #[.val (.int p_1), .val (.int p_2), .val (.int (0 : Int32)), .val (.int (32 : Int32)), .val (.ref b3), .val (.ref mF), .unset] [(.double (FP.i2d p_2)), (.ref b3)])) rfl (by rw [hml]; rfl) (Steps.refl _) (argsL := [(.double (FP.i2d p_2))]) (rest := []) (lenOf own_pd7 rfl) rfl (by show 2 * 0 + _ ≤ _; exact Nat.le_of_eq rfl) (hb hby at_45) (fun _ _ => ⟨rfl, e11, (by show k11 + _ ≤ _; rw [y11]; decide), (by show n11 + _ ≤ _; rw [z11]; decide)⟩)
    dsimp only [Pt.U, Pt.locs, Pt.cells, Pt.slots] at X12 l12 y12 z12 st12 hQ12
    have y12 : k12 = 2 := own_addeq y12 (congrArg (fun q => q) y11) rfl
    have z12 : n12 = 2 := own_addeq z12 (congrArg (fun q => q) z11) rfl
    obtain ⟨x13, rfl, N12q, K12q, f14, f15⟩ := hQ12
    have N12 : Fr n0 L12 := by rw [l12]; exact Fr.app N11 N12q
    have z16 := K12q.1
    have K12 : Keep h0 T12.heap [] := K5.trans K12q all0
    have z17 := own_lt f14.lt
    refine own_go (fun _ k => st12.trans k) ?_
    show own_Go _ _ _ _ T12 (mkF m 48 #[.val (.int p_1), .val (.int p_2), .val (.int (0 : Int32)), .val (.int (32 : Int32)), .val (.ref b3), .val (.ref mF), .unset] [(.ref x13)])
    refine own_go (fun _ k => XS.astore X12.here hx rfl (hb hby at_48) rfl rfl (l' := #[.val (.int p_1), .val (.int p_2), .val (.int (0 : Int32)), .val (.int (32 : Int32)), .val (.ref b3), .val (.ref mF), .val (.ref x13)]) rfl k) ?_
    show own_Go _ _ _ _ T12 (mkF m 50 #[.val (.int p_1), .val (.int p_2), .val (.int (0 : Int32)), .val (.int (32 : Int32)), .val (.ref b3), .val (.ref mF), .val (.ref x13)] [])
    refine own_go (fun _ k => XS.iloadN X12.here hx rfl (hb hby at_50) rfl k) ?_
    show own_Go _ _ _ _ T12 (mkF m 51 #[.val (.int p_1), .val (.int p_2), .val (.int (0 : Int32)), .val (.int (32 : Int32)), .val (.ref b3), .val (.ref mF), .val (.ref x13)] [(.int (0 : Int32))])
    have hc18 : (0 : Int32) = 0 := by decide
    refine own_go (fun _ k => XS.ifYes X12.here hx rfl (pc0 := 51) (pc' := 82) rfl (hb hby at_51) rfl (Jvm.Free.XT.i0_eq_t hc18) (by decide) (by decide) k) ?_
    show own_Go _ _ _ _ T12 (mkF m 82 #[.val (.int p_1), .val (.int p_2), .val (.int (0 : Int32)), .val (.int (32 : Int32)), .val (.ref b3), .val (.ref mF), .val (.ref x13)] [])
    refine own_go (fun _ k => XS.aload X12.here hx rfl (hb hby at_82) rfl rfl k) ?_
    show own_Go _ _ _ _ T12 (mkF m 84 #[.val (.int p_1), .val (.int p_2), .val (.int (0 : Int32)), .val (.int (32 : Int32)), .val (.ref b3), .val (.ref mF), .val (.ref x13)] [(.ref mF)])
    obtain ⟨T19, X19, e19, st19⟩ := own_ldcM X12 hx hZ hown w_46 rfl hgF (g := (mkF m 84 #[.val (.int p_1), .val (.int p_2), .val (.int (0 : Int32)), .val (.int (32 : Int32)), .val (.ref b3), .val (.ref mF), .val (.ref x13)] [(.ref mF)])) rfl (hb hby at_84)
    refine own_go (fun _ k => st19 _ k) ?_
    show own_Go _ _ _ _ T19 (mkF m 86 #[.val (.int p_1), .val (.int p_2), .val (.int (0 : Int32)), .val (.int (32 : Int32)), .val (.ref b3), .val (.ref mF), .val (.ref x13)] [(.ref mF), (.ref mF)])
    refine own_go (fun _ k => Jvm.RoadKit.acmp (g := (mkF m 86 #[.val (.int p_1), .val (.int p_2), .val (.int (0 : Int32)), .val (.int (32 : Int32)), .val (.ref b3), .val (.ref mF), .val (.ref x13)] [(.ref mF), (.ref mF)])) X19 hx rfl rfl rfl (pc0 := 86) (pc' := 89) (same := true) rfl (hb hby at_86) rfl (decide_eq_true rfl) (by decide) (by decide) k) ?_
    show own_Go _ _ _ _ T19 (mkF m 89 #[.val (.int p_1), .val (.int p_2), .val (.int (0 : Int32)), .val (.int (32 : Int32)), .val (.ref b3), .val (.ref mF), .val (.ref x13)] [])
    refine own_go (fun _ k => XS.aload X19.here hx rfl (hb hby at_89) rfl rfl k) ?_
    show own_Go _ _ _ _ T19 (mkF m 91 #[.val (.int p_1), .val (.int p_2), .val (.int (0 : Int32)), .val (.int (32 : Int32)), .val (.ref b3), .val (.ref mF), .val (.ref x13)] [(.ref mF)])
    obtain ⟨T20, X20, e20, st20⟩ := own_ldcM X19 hx hZ hown w_47 e19 hgD (g := (mkF m 91 #[.val (.int p_1), .val (.int p_2), .val (.int (0 : Int32)), .val (.int (32 : Int32)), .val (.ref b3), .val (.ref mF), .val (.ref x13)] [(.ref mF)])) rfl (hb hby at_91)
    refine own_go (fun _ k => st20 _ k) ?_
    show own_Go _ _ _ _ T20 (mkF m 93 #[.val (.int p_1), .val (.int p_2), .val (.int (0 : Int32)), .val (.int (32 : Int32)), .val (.ref b3), .val (.ref mF), .val (.ref x13)] [(.ref mD), (.ref mF)])
    refine own_go (fun _ k => Jvm.RoadKit.acmp (g := (mkF m 93 #[.val (.int p_1), .val (.int p_2), .val (.int (0 : Int32)), .val (.int (32 : Int32)), .val (.ref b3), .val (.ref mF), .val (.ref x13)] [(.ref mD), (.ref mF)])) X20 hx rfl rfl rfl (pc0 := 93) (pc' := 96) (same := false) rfl (hb hby at_93) rfl (decide_eq_false fun q => absurd (Value.ref.inj q) (own_ne (by omega))) (by decide) (by decide) k) ?_
    show own_Go _ _ _ _ T20 (mkF m 96 #[.val (.int p_1), .val (.int p_2), .val (.int (0 : Int32)), .val (.int (32 : Int32)), .val (.ref b3), .val (.ref mF), .val (.ref x13)] [])
    refine own_go (fun _ k => XS.aload X20.here hx rfl (hb hby at_96) rfl rfl k) ?_
    show own_Go _ _ _ _ T20 (mkF m 98 #[.val (.int p_1), .val (.int p_2), .val (.int (0 : Int32)), .val (.int (32 : Int32)), .val (.ref b3), .val (.ref mF), .val (.ref x13)] [(.ref x13)])
    obtain ⟨T21, X21, e21, st21⟩ := instY X20 hx hZ hown w_46 e20 (Ins.self f14) (g := (mkF m 98 #[.val (.int p_1), .val (.int p_2), .val (.int (0 : Int32)), .val (.int (32 : Int32)), .val (.ref b3), .val (.ref mF), .val (.ref x13)] [(.ref x13)])) rfl rfl (hb hby at_98)
    refine own_go (fun _ k => st21 _ k) ?_
    show own_Go _ _ _ _ T21 (mkF m 101 #[.val (.int p_1), .val (.int p_2), .val (.int (0 : Int32)), .val (.int (32 : Int32)), .val (.ref b3), .val (.ref mF), .val (.ref x13)] [(.int (1 : Int32))])
    have hc22 : ¬ ((1 : Int32) = 0) := by decide
    refine own_go (fun _ k => XS.ifNo X21.here hx rfl (hb hby at_101) rfl (Jvm.Free.XT.i0_eq_f hc22) k) ?_
    show own_Go _ _ _ _ T21 (mkF m 104 #[.val (.int p_1), .val (.int p_2), .val (.int (0 : Int32)), .val (.int (32 : Int32)), .val (.ref b3), .val (.ref mF), .val (.ref x13)] [])
    refine own_go (fun _ k => XS.iconst X21.here hx rfl (hb hby at_104) k) ?_
    show own_Go _ _ _ _ T21 (mkF m 105 #[.val (.int p_1), .val (.int p_2), .val (.int (0 : Int32)), .val (.int (32 : Int32)), .val (.ref b3), .val (.ref mF), .val (.ref x13)] [(.int (1 : Int32))])
    refine own_go (fun _ k => XS.goto X21.here hx rfl (pc0 := 105) (pc' := 109) rfl (hb hby at_105) (by decide) (by decide) k) ?_
    show own_Go _ _ _ _ T21 (mkF m 109 #[.val (.int p_1), .val (.int p_2), .val (.int (0 : Int32)), .val (.int (32 : Int32)), .val (.ref b3), .val (.ref mF), .val (.ref x13)] [(.int (1 : Int32))])
    obtain ⟨fs, hr, hrun, hended, hW, hsame⟩ := X21.leave (v := some (.int (1 : Int32))) (fun h => by rw [Bd.returns] at h; cases h)
    refine ⟨_, _, retOut X21 hx Bd.returns rfl (Or.inl ⟨rfl, Or.inr (Or.inl rfl), _, rfl⟩) (hb hby at_109) hr, hrun, hended, _, _, rfl, ?_, ⟨_, rfl⟩, hW, hsame.mono (by rw [y12]; decide) (by rw [z12]; decide)⟩
    show own_Q0 Z p_1 p_2 mF mD h0 n0 _ T21.heap _
    rw [e21]
    exact ⟨rfl, N12⟩
  · refine own_go (fun _ k => XS.ifNo X0.here hx rfl (hb hby at_3) rfl (Jvm.Free.XT.i0_eq_f hc1) k) ?_
    show own_Go _ _ _ _ s₁ (mkF m 6 #[.val (.int p_1), .val (.int p_2), .unset, .unset, .unset, .unset, .unset] [])
    refine own_go (fun _ k => XS.iconst X0.here hx rfl (hb hby at_6) k) ?_
    show own_Go _ _ _ _ s₁ (mkF m 7 #[.val (.int p_1), .val (.int p_2), .unset, .unset, .unset, .unset, .unset] [(.int (1 : Int32))])
    refine own_go (fun _ k => XS.goto X0.here hx rfl (pc0 := 7) (pc' := 11) rfl (hb hby at_7) (by decide) (by decide) k) ?_
    show own_Go _ _ _ _ s₁ (mkF m 11 #[.val (.int p_1), .val (.int p_2), .unset, .unset, .unset, .unset, .unset] [(.int (1 : Int32))])
    refine own_go (fun _ k => XS.istoreN X0.here hx rfl (hb hby at_11) rfl (l' := #[.val (.int p_1), .val (.int p_2), .val (.int (1 : Int32)), .unset, .unset, .unset, .unset]) rfl k) ?_
    show own_Go _ _ _ _ s₁ (mkF m 12 #[.val (.int p_1), .val (.int p_2), .val (.int (1 : Int32)), .unset, .unset, .unset, .unset] [])
    refine own_go (fun _ k => XS.iloadN X0.here hx rfl (hb hby at_12) rfl k) ?_
    show own_Go _ _ _ _ s₁ (mkF m 13 #[.val (.int p_1), .val (.int p_2), .val (.int (1 : Int32)), .unset, .unset, .unset, .unset] [(.int (1 : Int32))])
    have hc24 : ¬ ((1 : Int32) = 0) := by decide
    refine own_go (fun _ k => XS.ifNo X0.here hx rfl (hb hby at_13) rfl (Jvm.Free.XT.i0_eq_f hc24) k) ?_
    show own_Go _ _ _ _ s₁ (mkF m 16 #[.val (.int p_1), .val (.int p_2), .val (.int (1 : Int32)), .unset, .unset, .unset, .unset] [])
    refine own_go (fun _ k => XS.bipush X0.here hx rfl (hb hby at_16) k) ?_
    show own_Go _ _ _ _ s₁ (mkF m 18 #[.val (.int p_1), .val (.int p_2), .val (.int (1 : Int32)), .unset, .unset, .unset, .unset] [(.int (64 : Int32))])
    refine own_go (fun _ k => XS.goto X0.here hx rfl (pc0 := 18) (pc' := 23) rfl (hb hby at_18) (by decide) (by decide) k) ?_
    show own_Go _ _ _ _ s₁ (mkF m 23 #[.val (.int p_1), .val (.int p_2), .val (.int (1 : Int32)), .unset, .unset, .unset, .unset] [(.int (64 : Int32))])
    refine own_go (fun _ k => XS.istoreN X0.here hx rfl (hb hby at_23) rfl (l' := #[.val (.int p_1), .val (.int p_2), .val (.int (1 : Int32)), .val (.int (64 : Int32)), .unset, .unset, .unset]) rfl k) ?_
    show own_Go _ _ _ _ s₁ (mkF m 24 #[.val (.int p_1), .val (.int p_2), .val (.int (1 : Int32)), .val (.int (64 : Int32)), .unset, .unset, .unset] [])
    obtain ⟨T25, h25, X25, e25, E25, A25, D25, Y25, st25⟩ := newO X0 hx hZ hown w_0 w_1 w_2 e0 (g := (mkF m 24 #[.val (.int p_1), .val (.int p_2), .val (.int (1 : Int32)), .val (.int (64 : Int32)), .unset, .unset, .unset] [])) rfl (hb hby at_24) (by decide) (by decide)
    obtain ⟨b25, g25⟩ : ∃ z, z = h0.size := ⟨_, rfl⟩
    rw [← g25] at A25 D25 Y25 st25
    have z26 := E25.1
    have lt_b25 := own_lt A25.lt
    have K25 : Keep h0 h25 [] := K0.ext E25
    have F_bits_b25 : Fld Z h25 b25 "com/example/tessera/tessera/FloatType" "bits" "I" (.int (0 : Int32)) := D25 (Or.inr w_15) (ty := .int) (by decide)
    refine own_go (fun _ k => st25 _ k) ?_
    show own_Go _ _ _ _ T25 (mkF m 27 #[.val (.int p_1), .val (.int p_2), .val (.int (1 : Int32)), .val (.int (64 : Int32)), .unset, .unset, .unset] [(.ref b25)])
    refine own_go (fun _ k => XS.dup X25.here hx rfl (hb hby at_27) rfl rfl k) ?_
    show own_Go _ _ _ _ T25 (mkF m 28 #[.val (.int p_1), .val (.int p_2), .val (.int (1 : Int32)), .val (.int (64 : Int32)), .unset, .unset, .unset] [(.ref b25), (.ref b25)])
    refine own_go (fun _ k => XS.iloadN X25.here hx rfl (hb hby at_28) rfl k) ?_
    show own_Go _ _ _ _ T25 (mkF m 29 #[.val (.int p_1), .val (.int p_2), .val (.int (1 : Int32)), .val (.int (64 : Int32)), .unset, .unset, .unset] [(.int (64 : Int32)), (.ref b25), (.ref b25)])
    obtain ⟨_, _, ⟨T27, L27, k27, n27⟩, -, X27, ⟨Lc27, hQ27, l27, y27, z27⟩, st27⟩ := X25.specialBack hx (y := (⟨"com/example/tessera/tessera/FloatType", "<init>", "(I)V"⟩ : MethodName)) rfl hown (mvT hZ w_3) (mvT hZ w_4) (mvT hZ w_5) (by decide) (backOf (W := 1) (own_rm1_64 l Z a0 hw [] b25 (0 : Int32) h25 n0 (by omega) A25 F_bits_b25 (by omega)) hZ w_5 w_2 (by decide) (by decide)) (g := (mkF m 29 #[.val (.int p_1), .val (.int p_2), .val (.int (1 : Int32)), .val (.int (64 : Int32)), .unset, .unset, .unset] [(.int (64 : Int32)), (.ref b25), (.ref b25)])) rfl (by rw [hml]; rfl) (Steps.refl _) (a := b25) (argsL := [(.int (64 : Int32))]) (rest := [(.ref b25)]) (lenOf own_pd5 rfl) rfl (by show 2 * 0 + _ ≤ _; exact Nat.le_of_eq rfl) (hb hby at_29) (fun _ _ => ⟨rfl, e25, (by decide : 1 + 0 ≤ _), (by decide : 1 + 0 ≤ _)⟩)
    dsimp only [Pt.U, Pt.locs, Pt.cells, Pt.slots] at X27 l27 y27 z27 st27 hQ27
    have y27 : k27 = 1 := y27
    have z27 : n27 = 1 := z27
    obtain ⟨rfl, N27q, K27q, f28, f29⟩ := hQ27
    have N27 : Fr n0 L27 := by rw [l27]; exact Fr.app N0 N27q
    have z30 := K27q.1
    have K27 : Keep h0 T27.heap [] := K25.trans K27q (allS (Or.inr (by omega)) all0)
    have z31 := own_lt f28.lt
    have z32 := own_lt f29.lt
    refine own_go (fun _ k => st27.trans k) ?_
    show own_Go _ _ _ _ T27 (mkF m 32 #[.val (.int p_1), .val (.int p_2), .val (.int (1 : Int32)), .val (.int (64 : Int32)), .unset, .unset, .unset] [(.ref b25)])
    refine own_go (fun _ k => XS.astore X27.here hx rfl (hb hby at_32) rfl rfl (l' := #[.val (.int p_1), .val (.int p_2), .val (.int (1 : Int32)), .val (.int (64 : Int32)), .val (.ref b25), .unset, .unset]) rfl k) ?_
    show own_Go _ _ _ _ T27 (mkF m 34 #[.val (.int p_1), .val (.int p_2), .val (.int (1 : Int32)), .val (.int (64 : Int32)), .val (.ref b25), .unset, .unset] [])
    refine own_go (fun _ k => XS.aload X27.here hx rfl (hb hby at_34) rfl rfl k) ?_
    show own_Go _ _ _ _ T27 (mkF m 36 #[.val (.int p_1), .val (.int p_2), .val (.int (1 : Int32)), .val (.int (64 : Int32)), .val (.ref b25), .unset, .unset] [(.ref b25)])
    obtain ⟨cq33, kq33, q33a, q33b, q33c⟩ := isOf hZ rfl f28
    obtain ⟨_, _, ⟨T33, L33, k33, n33⟩, -, X33, ⟨Lc33, hQ33, l33, y33, z33⟩, st33⟩ := X27.virtualBack hx (y := (⟨"com/example/tessera/tessera/FloatType", "valueClass", "()Ljava/lang/Class;"⟩ : MethodName)) (z := (⟨"com/example/tessera/tessera/FloatType", "valueClass", "()Ljava/lang/Class;"⟩ : MethodName)) hown (mvT hZ w_16) (mvT hZ w_17) (notFace_of_selects (args := #[]) (mvT hZ w_19)) (mvT hZ w_19) (mvT hZ w_18) (by decide) (backOf (W := 0) (own_rm4_64 l Z a0 hw [] b25 mF mD T27.heap n0 (by omega) f29 hgF hgD) hZ w_20 w_2 (by decide) (by decide)) q33a q33c (g := (mkF m 36 #[.val (.int p_1), .val (.int p_2), .val (.int (1 : Int32)), .val (.int (64 : Int32)), .val (.ref b25), .unset, .unset] [(.ref b25)])) rfl (by rw [hml]; rfl) (Steps.refl _) (argsL := []) (rest := []) (lenOf own_pd6 rfl) rfl (by show 2 * 0 + _ ≤ _; exact Nat.le_of_eq rfl) (hb hby at_36) (fun _ _ => ⟨rfl, rfl, (by show k27 + _ ≤ _; rw [y27]; decide), (by show n27 + _ ≤ _; rw [z27]; decide)⟩)
    dsimp only [Pt.U, Pt.locs, Pt.cells, Pt.slots] at X33 l33 y33 z33 st33 hQ33
    have y33 : k33 = 1 := own_addeq y33 (congrArg (fun q => q) y27) rfl
    have z33 : n33 = 1 := own_addeq z33 (congrArg (fun q => q) z27) rfl
    obtain ⟨rfl, N33q, e33⟩ := hQ33
    have N33 : Fr n0 L33 := by rw [l33]; exact Fr.app N27 N33q
    refine own_go (fun _ k => st33.trans k) ?_
    show own_Go _ _ _ _ T33 (mkF m 39 #[.val (.int p_1), .val (.int p_2), .val (.int (1 : Int32)), .val (.int (64 : Int32)), .val (.ref b25), .unset, .unset] [(.ref mD)])
    refine own_go (fun _ k => XS.astore X33.here hx rfl (hb hby at_39) rfl rfl (l' := #[.val (.int p_1), .val (.int p_2), .val (.int (1 : Int32)), .val (.int (64 : Int32)), .val (.ref b25), .val (.ref mD), .unset]) rfl k) ?_
    show own_Go _ _ _ _ T33 (mkF m 41 #[.val (.int p_1), .val (.int p_2), .val (.int (1 : Int32)), .val (.int (64 : Int32)), .val (.ref b25), .val (.ref mD), .unset] [])
    refine own_go (fun _ k => XS.aload X33.here hx rfl (hb hby at_41) rfl rfl k) ?_
    show own_Go _ _ _ _ T33 (mkF m 43 #[.val (.int p_1), .val (.int p_2), .val (.int (1 : Int32)), .val (.int (64 : Int32)), .val (.ref b25), .val (.ref mD), .unset] [(.ref b25)])
    refine own_go (fun _ k => XS.iloadN X33.here hx rfl (hb hby at_43) rfl k) ?_
    show own_Go _ _ _ _ T33 (mkF m 44 #[.val (.int p_1), .val (.int p_2), .val (.int (1 : Int32)), .val (.int (64 : Int32)), .val (.ref b25), .val (.ref mD), .unset] [(.int p_2), (.ref b25)])
    refine own_go (fun _ k => XS.i2dS X33.here hx rfl (hb hby at_44) rfl rfl k) ?_
    show own_Go _ _ _ _ T33 (mkF m 45 #[.val (.int p_1), .val (.int p_2), .val (.int (1 : Int32)), .val (.int (64 : Int32)), .val (.ref b25), .val (.ref mD), .unset] [(.double (FP.i2d p_2)), (.ref b25)])
    obtain ⟨cq34, kq34, q34a, q34b, q34c⟩ := isOf hZ e33 f28
    obtain ⟨_, _, ⟨T34, L34, k34, n34⟩, -, X34, ⟨Lc34, hQ34, l34, y34, z34⟩, st34⟩ := X33.virtualBack hx (y := (⟨"com/example/tessera/tessera/FloatType", "box", "(D)Ljava/lang/Object;"⟩ : MethodName)) (z := (⟨"com/example/tessera/tessera/FloatType", "box", "(D)Ljava/lang/Object;"⟩ : MethodName)) hown (mvT hZ w_23) (mvT hZ w_24) (notFace_of_selects (args := #[]) (mvT hZ w_26)) (mvT hZ w_26) (mvT hZ w_25) (by decide) (backOf (W := 0) (own_rm5_64 l Z a0 hw [] b25 (FP.i2d p_2)  T27.heap n0 (by omega) f29 (Jvm.Free.Fl.Fin64.noNaN (Jvm.Free.Fl.i2d_fin _))) hZ w_27 w_2 (by decide) (by decide)) q34a q34c (g := (mkF m 45 #[.val (.int p_1), .val (.int p_2), .val (.int (1 : Int32)), .val (.int (64 : Int32)), .val (.ref b25), .val (.ref mD), .unset] [(.double (FP.i2d p_2)), (.ref b25)])) rfl (by rw [hml]; rfl) (Steps.refl _) (argsL := [(.double (FP.i2d p_2))]) (rest := []) (lenOf own_pd7 rfl) rfl (by show 2 * 0 + _ ≤ _; exact Nat.le_of_eq rfl) (hb hby at_45) (fun _ _ => ⟨rfl, e33, (by show k33 + _ ≤ _; rw [y33]; decide), (by show n33 + _ ≤ _; rw [z33]; decide)⟩)
    dsimp only [Pt.U, Pt.locs, Pt.cells, Pt.slots] at X34 l34 y34 z34 st34 hQ34
    have y34 : k34 = 2 := own_addeq y34 (congrArg (fun q => q) y33) rfl
    have z34 : n34 = 2 := own_addeq z34 (congrArg (fun q => q) z33) rfl
    obtain ⟨x35, rfl, N34q, K34q, f36, f37⟩ := hQ34
    have N34 : Fr n0 L34 := by rw [l34]; exact Fr.app N33 N34q
    have z38 := K34q.1
    have K34 : Keep h0 T34.heap [] := K27.trans K34q all0
    have z39 := own_lt f36.lt
    refine own_go (fun _ k => st34.trans k) ?_
    show own_Go _ _ _ _ T34 (mkF m 48 #[.val (.int p_1), .val (.int p_2), .val (.int (1 : Int32)), .val (.int (64 : Int32)), .val (.ref b25), .val (.ref mD), .unset] [(.ref x35)])
    refine own_go (fun _ k => XS.astore X34.here hx rfl (hb hby at_48) rfl rfl (l' := #[.val (.int p_1), .val (.int p_2), .val (.int (1 : Int32)), .val (.int (64 : Int32)), .val (.ref b25), .val (.ref mD), .val (.ref x35)]) rfl k) ?_
    show own_Go _ _ _ _ T34 (mkF m 50 #[.val (.int p_1), .val (.int p_2), .val (.int (1 : Int32)), .val (.int (64 : Int32)), .val (.ref b25), .val (.ref mD), .val (.ref x35)] [])
    refine own_go (fun _ k => XS.iloadN X34.here hx rfl (hb hby at_50) rfl k) ?_
    show own_Go _ _ _ _ T34 (mkF m 51 #[.val (.int p_1), .val (.int p_2), .val (.int (1 : Int32)), .val (.int (64 : Int32)), .val (.ref b25), .val (.ref mD), .val (.ref x35)] [(.int (1 : Int32))])
    have hc40 : ¬ ((1 : Int32) = 0) := by decide
    refine own_go (fun _ k => XS.ifNo X34.here hx rfl (hb hby at_51) rfl (Jvm.Free.XT.i0_eq_f hc40) k) ?_
    show own_Go _ _ _ _ T34 (mkF m 54 #[.val (.int p_1), .val (.int p_2), .val (.int (1 : Int32)), .val (.int (64 : Int32)), .val (.ref b25), .val (.ref mD), .val (.ref x35)] [])
    refine own_go (fun _ k => XS.aload X34.here hx rfl (hb hby at_54) rfl rfl k) ?_
    show own_Go _ _ _ _ T34 (mkF m 56 #[.val (.int p_1), .val (.int p_2), .val (.int (1 : Int32)), .val (.int (64 : Int32)), .val (.ref b25), .val (.ref mD), .val (.ref x35)] [(.ref mD)])
    obtain ⟨T41, X41, e41, st41⟩ := own_ldcM X34 hx hZ hown w_47 rfl hgD (g := (mkF m 56 #[.val (.int p_1), .val (.int p_2), .val (.int (1 : Int32)), .val (.int (64 : Int32)), .val (.ref b25), .val (.ref mD), .val (.ref x35)] [(.ref mD)])) rfl (hb hby at_56)
    refine own_go (fun _ k => st41 _ k) ?_
    show own_Go _ _ _ _ T41 (mkF m 58 #[.val (.int p_1), .val (.int p_2), .val (.int (1 : Int32)), .val (.int (64 : Int32)), .val (.ref b25), .val (.ref mD), .val (.ref x35)] [(.ref mD), (.ref mD)])
    refine own_go (fun _ k => Jvm.RoadKit.acmp (g := (mkF m 58 #[.val (.int p_1), .val (.int p_2), .val (.int (1 : Int32)), .val (.int (64 : Int32)), .val (.ref b25), .val (.ref mD), .val (.ref x35)] [(.ref mD), (.ref mD)])) X41 hx rfl rfl rfl (pc0 := 58) (pc' := 61) (same := true) rfl (hb hby at_58) rfl (decide_eq_true rfl) (by decide) (by decide) k) ?_
    show own_Go _ _ _ _ T41 (mkF m 61 #[.val (.int p_1), .val (.int p_2), .val (.int (1 : Int32)), .val (.int (64 : Int32)), .val (.ref b25), .val (.ref mD), .val (.ref x35)] [])
    refine own_go (fun _ k => XS.aload X41.here hx rfl (hb hby at_61) rfl rfl k) ?_
    show own_Go _ _ _ _ T41 (mkF m 63 #[.val (.int p_1), .val (.int p_2), .val (.int (1 : Int32)), .val (.int (64 : Int32)), .val (.ref b25), .val (.ref mD), .val (.ref x35)] [(.ref mD)])
    obtain ⟨T42, X42, e42, st42⟩ := own_ldcM X41 hx hZ hown w_46 e41 hgF (g := (mkF m 63 #[.val (.int p_1), .val (.int p_2), .val (.int (1 : Int32)), .val (.int (64 : Int32)), .val (.ref b25), .val (.ref mD), .val (.ref x35)] [(.ref mD)])) rfl (hb hby at_63)
    refine own_go (fun _ k => st42 _ k) ?_
    show own_Go _ _ _ _ T42 (mkF m 65 #[.val (.int p_1), .val (.int p_2), .val (.int (1 : Int32)), .val (.int (64 : Int32)), .val (.ref b25), .val (.ref mD), .val (.ref x35)] [(.ref mF), (.ref mD)])
    refine own_go (fun _ k => Jvm.RoadKit.acmp (g := (mkF m 65 #[.val (.int p_1), .val (.int p_2), .val (.int (1 : Int32)), .val (.int (64 : Int32)), .val (.ref b25), .val (.ref mD), .val (.ref x35)] [(.ref mF), (.ref mD)])) X42 hx rfl rfl rfl (pc0 := 65) (pc' := 68) (same := false) rfl (hb hby at_65) rfl (decide_eq_false fun q => absurd (Value.ref.inj q) (own_ne (by omega))) (by decide) (by decide) k) ?_
    show own_Go _ _ _ _ T42 (mkF m 68 #[.val (.int p_1), .val (.int p_2), .val (.int (1 : Int32)), .val (.int (64 : Int32)), .val (.ref b25), .val (.ref mD), .val (.ref x35)] [])
    refine own_go (fun _ k => XS.aload X42.here hx rfl (hb hby at_68) rfl rfl k) ?_
    show own_Go _ _ _ _ T42 (mkF m 70 #[.val (.int p_1), .val (.int p_2), .val (.int (1 : Int32)), .val (.int (64 : Int32)), .val (.ref b25), .val (.ref mD), .val (.ref x35)] [(.ref x35)])
    obtain ⟨T43, X43, e43, st43⟩ := instY X42 hx hZ hown w_47 e42 (Ins.self f36) (g := (mkF m 70 #[.val (.int p_1), .val (.int p_2), .val (.int (1 : Int32)), .val (.int (64 : Int32)), .val (.ref b25), .val (.ref mD), .val (.ref x35)] [(.ref x35)])) rfl rfl (hb hby at_70)
    refine own_go (fun _ k => st43 _ k) ?_
    show own_Go _ _ _ _ T43 (mkF m 73 #[.val (.int p_1), .val (.int p_2), .val (.int (1 : Int32)), .val (.int (64 : Int32)), .val (.ref b25), .val (.ref mD), .val (.ref x35)] [(.int (1 : Int32))])
    have hc44 : ¬ ((1 : Int32) = 0) := by decide
    refine own_go (fun _ k => XS.ifNo X43.here hx rfl (hb hby at_73) rfl (Jvm.Free.XT.i0_eq_f hc44) k) ?_
    show own_Go _ _ _ _ T43 (mkF m 76 #[.val (.int p_1), .val (.int p_2), .val (.int (1 : Int32)), .val (.int (64 : Int32)), .val (.ref b25), .val (.ref mD), .val (.ref x35)] [])
    refine own_go (fun _ k => XS.iconst X43.here hx rfl (hb hby at_76) k) ?_
    show own_Go _ _ _ _ T43 (mkF m 77 #[.val (.int p_1), .val (.int p_2), .val (.int (1 : Int32)), .val (.int (64 : Int32)), .val (.ref b25), .val (.ref mD), .val (.ref x35)] [(.int (1 : Int32))])
    refine own_go (fun _ k => XS.goto X43.here hx rfl (pc0 := 77) (pc' := 81) rfl (hb hby at_77) (by decide) (by decide) k) ?_
    show own_Go _ _ _ _ T43 (mkF m 81 #[.val (.int p_1), .val (.int p_2), .val (.int (1 : Int32)), .val (.int (64 : Int32)), .val (.ref b25), .val (.ref mD), .val (.ref x35)] [(.int (1 : Int32))])
    obtain ⟨fs, hr, hrun, hended, hW, hsame⟩ := X43.leave (v := some (.int (1 : Int32))) (fun h => by rw [Bd.returns] at h; cases h)
    refine ⟨_, _, retOut X43 hx Bd.returns rfl (Or.inl ⟨rfl, Or.inr (Or.inl rfl), _, rfl⟩) (hb hby at_81) hr, hrun, hended, _, _, rfl, ?_, ⟨_, rfl⟩, hW, hsame.mono (by rw [y34]; decide) (by rw [z34]; decide)⟩
    show own_Q0 Z p_1 p_2 mF mD h0 n0 _ T43.heap _
    rw [e43]
    exact ⟨rfl, N34⟩
set_option maxRecDepth 65536 in
set_option maxHeartbeats 40000000 in
theorem comes_1 {Post : Tables → Env → Array Value → State → Outcome → State → Prop} (hpost : ∀ tb e args s v u, (limb_1_1.after args s (.returned v) u = true ∧ limb_1_2.after args s (.returned v) u = true ∧ True) → FrameEnd s (.returned v) u (Jvm.fieldLocs frame_1_writes args s ++ Jvm.arrayLocs frame_1_arrays args s ++ Jvm.staticLocs frame_1_statics s) 16 128 → Post tb e args s (.returned v) u) :
    ArmFor flags0 classFile x code maxLocals ret World_1 tables_1 room_1 Calls_1 rest_1 Pre_1 Post := by
  intro l hfl _ _ p e ha hc hk s m args below hf hA hF happ hP
  obtain ⟨hcalls, hrest, hpre⟩ := hP
  obtain ⟨-, -, -, hnamed, -, -, -, hat⟩ := (Spec.applies_iff hf).mp happ
  obtain ⟨hg, hn⟩ := and_e (Cond.before_iff.mp (show (Jvm.Cond.and given_1 narrow_1).before args s = true from hpre))
  obtain ⟨g1, g2⟩ := and_e hg
  obtain ⟨g3, g4⟩ := and_e g2
  obtain ⟨w0, w1, rfl⟩ : ∃ w0 w1 : Value, args = #[w0, w1] := by
    have hs : args.size = 2 := by simpa [Cond.value, given_1] using g1
    obtain ⟨L⟩ := args
    match L, hs with
    | [w0, w1], _ => exact ⟨w0, w1, rfl⟩
  have hw := fun d (hd : d ∈ tables_1) => atoms_spec (ws := Jvm.Cond.code x code maxLocals ret :: tables_1) hat d (List.mem_cons_of_mem _ hd)
  have hfit : Fit s := fun {y c} hc i hi => by
    obtain ⟨ha, rfl⟩ := Array.getElem?_eq_some_iff.mp hc
    have q := List.all_eq_true.mp ((Array.all_eq_true_iff_forall_mem.mp hF) _ (Array.getElem_mem ha)) i (List.mem_range.mpr hi)
    simpa [Array.getElem?_eq_getElem hi] using q
  obtain ⟨i0, ei0⟩ := is_v g3
  obtain rfl : w0 = (.int i0) := Option.some.inj ei0
  obtain ⟨i1, ei1⟩ := is_v g4
  obtain rfl : w1 = (.int i1) := Option.some.inj ei1
  obtain ⟨hc1, hc2, -⟩ := hcalls
  obtain ⟨mF, mD, pF, pD, pN⟩ := own_mirne (show Jvm.D.MirrorMade s "java/lang/Float" from hc1) (show Jvm.D.MirrorMade s "java/lang/Double" from hc2) (by decide)
  obtain ⟨n, o, h1, h2, h3, _, L, rfl, ⟨rfl, N⟩, hq⟩ := own_rm0 l s _ hw tables_1 i0 i1 mF mD s.heap s.heap.size (Nat.le_refl _) pF pD pN p e ha hc hk s m _ below hf ((Spec.applies_iff_loose hf).mp happ).1 ⟨rfl, State.Warmed39.refl s, rfl⟩ trivial
  refine ⟨n, _, h1, h2, h3, hpost _ _ _ _ _ _ ⟨Cond.after_iff.mpr rfl, Cond.after_iff.mpr (eq_i res_at (Term.int_eval (1)) rfl), trivial⟩ ⟨hq.1, hq.2.1, (hq.2.2.sift fun y hy => Or.inr (N y hy)).mono (by decide) (by decide)⟩⟩
theorem main_1_1 : Claimed_1_1 := comes_1 fun _ _ _ _ _ _ h hF => ⟨h.1, hF⟩
theorem main_1_2 : Claimed_1_2 := comes_1 fun _ _ _ _ _ _ h hF => ⟨h.2.1, hF⟩
end Jvm.Pilot.@@N@@
namespace Jvm.Pilot.@@N@@
open Jvm Jvm.ClassFile Sem Op Lib Jvm.Free Jvm.Stand Jvm.Pilot.@@N@@.Jvm.D
/-! MADE BY PROGRAM (witnessworld.py) out of the Statement's table words and the real class files: 18 classes; the members and pool entries that the words name. The judged class is class 1, her method 1. -/
namespace start1
open Jvm.ClassFile
def u (s : String) : CpInfo := .utf8 (stringToUtf16 s)
/-- a pool by its gaps: so many unusable entries, then the entry; so many at the end -/
def gap : Nat → List CpInfo → List CpInfo
  | 0, r => r
  | n + 1, r => .unusable :: gap n r
def poolList (es : List (Nat × CpInfo)) (last : Nat) : List CpInfo := es.foldr (fun e r => gap e.1 (e.2 :: r)) (gap last [])
def pool (es : List (Nat × CpInfo)) (last : Nat) : Array CpInfo := ⟨poolList es last⟩
def fileOf (pool : Array CpInfo) (this : Nat) (attrs : Array Attribute := #[]) (ms : Array MethodInfo := #[]) (fl : Nat := 33) (sup : Nat := 0) (ifs : Array Nat := #[]) (fds : Array FieldInfo := #[]) : ClassFile where
  minorVersion := 0
  majorVersion := 65
  constantPool := pool
  accessFlags := fl
  thisClass := this
  superClass := sup
  interfaces := ifs
  fields := fds
  methods := ms
  attributes := attrs
def plain (name : String) (sup : Option ClassId) : Class where
  name := name
  kind := .ordinary
  loader := none
  accessFlags := 33
  super := sup
  interfaces := #[]
  cf := none
  fields := #[]
  methods := #[]
  instanceTypes := #[]
  staticTypes := #[]
  resolved := #[]
  callSites := []
  init := .initialized
  statics := none
  mirror := none

def pool0 : Array CpInfo := pool [(5, u "<init>"), (0, u "()V"), (1, .class_ 10), (1, u "java/lang/Object")] 113

def k0c0 : Code := { maxStack := 0, maxLocals := 1, code := object_method_1_code, exceptionTable := #[], attributes := #[] }
def k0m0 : Method := { name := "<init>", desc := "()V", sig := { parameters := [], returnType := none }, accessFlags := 1, code := some k0c0 }
/-- java/lang/Object -/
def k0 : Class := { plain "java/lang/Object" none with
  accessFlags := 33
  interfaces := #[]
  cf := some (fileOf pool0 8 #[] #[{ accessFlags := 1, nameIndex := 5, descriptorIndex := 6, attributes := #[] }] 33 0 #[] #[])
  fields := #[]
  methods := #[k0m0]
  instanceTypes := #[]
  staticTypes := #[]
  resolved := Array.replicate 124 none
  statics := none }

def pool1 : Array CpInfo := pool [(2, .class_ 4), (1, u "java/lang/Object"), (0, u "<init>"), (0, u "()V"), (0, .class_ 8), (0, u "com/example/tessera/tessera/FloatType"), (0, .methodref 7 10), (0, .nameAndType 5 11), (0, u "(I)V"), (0, .methodref 7 13), (0, .nameAndType 14 15), (0, u "valueClass"), (0, u "()Ljava/lang/Class;"), (0, .methodref 7 17), (0, .nameAndType 18 19), (0, u "box"), (0, u "(D)Ljava/lang/Object;"), (0, .class_ 21), (0, u "java/lang/Double"), (0, .class_ 23), (0, u "java/lang/Float"), (0, .class_ 25), (0, u "com/example/tessera/tessera/FloatTypeValueClassPinLaw"), (2, u "law"), (0, u "(II)Z")] 5

def k1m0 : Method := { name := "<init>", desc := "()V", sig := { parameters := [], returnType := none }, accessFlags := 2, code := none }
def k1c1 : Code := { maxStack := 3, maxLocals := 7, code := code, exceptionTable := #[], attributes := #[] }
def k1m1 : Method := { name := "law", desc := "(II)Z", sig := { parameters := [.int, .int], returnType := some .boolean }, accessFlags := 9, code := some k1c1 }
/-- com/example/tessera/tessera/FloatTypeValueClassPinLaw -/
def k1 : Class := { plain "com/example/tessera/tessera/FloatTypeValueClassPinLaw" (some 0) with
  accessFlags := 49
  interfaces := #[]
  cf := some (fileOf pool1 24 #[] #[{ accessFlags := 2, nameIndex := 5, descriptorIndex := 6, attributes := #[] }, { accessFlags := 9, nameIndex := 28, descriptorIndex := 29, attributes := #[] }] 49 2 #[] #[])
  fields := #[]
  methods := #[k1m0, k1m1]
  instanceTypes := #[]
  staticTypes := #[]
  resolved := Array.replicate 35 none
  statics := none }

def pool2 : Array CpInfo := pool [(1, .methodref 2 3), (0, .class_ 4), (0, .nameAndType 5 6), (0, u "java/lang/Object"), (0, u "<init>"), (0, u "()V"), (0, .class_ 8), (0, u "java/lang/Record")] 13

def k2c0 : Code := { maxStack := 1, maxLocals := 1, code := jdk_30_method_1_code, exceptionTable := #[], attributes := #[] }
def k2m0 : Method := { name := "<init>", desc := "()V", sig := { parameters := [], returnType := none }, accessFlags := 4, code := some k2c0 }
/-- java/lang/Record -/
def k2 : Class := { plain "java/lang/Record" (some 0) with
  accessFlags := 1057
  interfaces := #[]
  cf := some (fileOf pool2 7 #[] #[{ accessFlags := 4, nameIndex := 5, descriptorIndex := 6, attributes := #[] }] 1057 2 #[] #[])
  fields := #[]
  methods := #[k2m0]
  instanceTypes := #[]
  staticTypes := #[]
  resolved := Array.replicate 22 none
  statics := none }

def pool3 : Array CpInfo := pool [(1, .class_ 2), (0, u "com/example/tessera/tessera/Type"), (62, .class_ 66), (0, u "java/lang/Object"), (0, u "MAX_LEVELS"), (0, u "I"), (2, u "TOO_DEEP"), (0, u "Ljava/lang/String;")] 79

/-- com/example/tessera/tessera/Type -/
def k3 : Class := { plain "com/example/tessera/tessera/Type" (some 0) with
  accessFlags := 1536
  interfaces := #[]
  cf := some (fileOf pool3 1 #[] #[] 1536 65 #[] #[{ accessFlags := 25, nameIndex := 67, descriptorIndex := 68, attributes := #[] }, { accessFlags := 25, nameIndex := 71, descriptorIndex := 72, attributes := #[] }])
  fields := #[{ name := "MAX_LEVELS", type := .int, accessFlags := 25, slot := 0, constantValue := 0 }, { name := "TOO_DEEP", type := (.object "java/lang/String"), accessFlags := 25, slot := 1, constantValue := 0 }]
  methods := #[]
  instanceTypes := #[]
  staticTypes := #[.int, (.object "java/lang/String")]
  resolved := Array.replicate 152 none
  statics := none }

def pool4 : Array CpInfo := pool [(1, .methodref 2 3), (0, .class_ 4), (0, .nameAndType 5 6), (0, u "java/lang/Record"), (0, u "<init>"), (0, u "()V"), (9, .fieldref 17 18), (0, .class_ 19), (0, .nameAndType 20 21), (0, u "com/example/tessera/tessera/FloatType"), (0, u "bits"), (0, u "I"), (0, .methodref 23 24), (0, .class_ 25), (0, .nameAndType 26 27), (0, u "java/lang/Float"), (0, u "valueOf"), (0, u "(F)Ljava/lang/Float;"), (0, .methodref 29 30), (0, .class_ 31), (0, .nameAndType 26 32), (0, u "java/lang/Double"), (0, u "(D)Ljava/lang/Double;"), (48, u "box"), (0, u "(D)Ljava/lang/Object;"), (47, .class_ 131), (0, u "com/example/tessera/tessera/Type"), (0, u "(I)V"), (16, u "valueClass"), (0, u "()Ljava/lang/Class;")] 36

def k4c0 : Code := { maxStack := 3, maxLocals := 2, code := prog_19_method_1_code, exceptionTable := #[], attributes := #[] }
def k4m0 : Method := { name := "<init>", desc := "(I)V", sig := { parameters := [.int], returnType := none }, accessFlags := 0, code := some k4c0 }
def k4c1 : Code := { maxStack := 2, maxLocals := 4, code := prog_19_method_2_code, exceptionTable := #[], attributes := #[] }
def k4m1 : Method := { name := "box", desc := "(D)Ljava/lang/Object;", sig := { parameters := [.double], returnType := some (.object "java/lang/Object") }, accessFlags := 0, code := some k4c1 }
def k4c2 : Code := { maxStack := 2, maxLocals := 1, code := prog_19_method_8_code, exceptionTable := #[], attributes := #[] }
def k4m2 : Method := { name := "valueClass", desc := "()Ljava/lang/Class;", sig := { parameters := [], returnType := some (.object "java/lang/Class") }, accessFlags := 1, code := some k4c2 }
/-- com/example/tessera/tessera/FloatType -/
def k4 : Class := { plain "com/example/tessera/tessera/FloatType" (some 2) with
  accessFlags := 48
  interfaces := #[3]
  cf := some (fileOf pool4 17 #[] #[{ accessFlags := 0, nameIndex := 5, descriptorIndex := 132, attributes := #[] }, { accessFlags := 0, nameIndex := 81, descriptorIndex := 82, attributes := #[] }, { accessFlags := 1, nameIndex := 149, descriptorIndex := 150, attributes := #[] }] 48 2 #[130] #[{ accessFlags := 18, nameIndex := 20, descriptorIndex := 21, attributes := #[] }])
  fields := #[{ name := "bits", type := .int, accessFlags := 18, slot := 0, constantValue := 0 }]
  methods := #[k4m0, k4m1, k4m2]
  instanceTypes := #[.int]
  staticTypes := #[]
  resolved := Array.replicate 187 none
  statics := none }

def pool5 : Array CpInfo := pool [(1, .class_ 2), (0, u "java/io/Serializable"), (0, .class_ 4), (0, u "java/lang/Object")] 2

/-- java/io/Serializable -/
def k5 : Class := { plain "java/io/Serializable" (some 0) with
  accessFlags := 1537
  interfaces := #[]
  cf := some (fileOf pool5 1 #[] #[] 1537 3 #[] #[])
  fields := #[]
  methods := #[]
  instanceTypes := #[]
  staticTypes := #[]
  resolved := Array.replicate 7 none
  statics := none }

def pool6 : Array CpInfo := pool [(1, .methodref 2 3), (0, .class_ 4), (0, .nameAndType 5 6), (0, u "java/lang/Object"), (0, u "<init>"), (0, u "()V"), (1, .class_ 10), (1, u "java/lang/Number"), (2, .class_ 14), (0, u "java/io/Serializable"), (0, u "serialVersionUID"), (0, u "J")] 20

def k6c0 : Code := { maxStack := 1, maxLocals := 1, code := jdk_18_method_1_code, exceptionTable := #[], attributes := #[] }
def k6m0 : Method := { name := "<init>", desc := "()V", sig := { parameters := [], returnType := none }, accessFlags := 1, code := some k6c0 }
/-- java/lang/Number -/
def k6 : Class := { plain "java/lang/Number" (some 0) with
  accessFlags := 1057
  interfaces := #[5]
  cf := some (fileOf pool6 8 #[] #[{ accessFlags := 1, nameIndex := 5, descriptorIndex := 6, attributes := #[] }] 1057 2 #[13] #[{ accessFlags := 26, nameIndex := 15, descriptorIndex := 16, attributes := #[] }])
  fields := #[{ name := "serialVersionUID", type := .long, accessFlags := 26, slot := 0, constantValue := 0 }]
  methods := #[k6m0]
  instanceTypes := #[]
  staticTypes := #[.long]
  resolved := Array.replicate 37 none
  statics := none }

def pool7 : Array CpInfo := pool [(1, .class_ 2), (0, u "java/lang/Comparable"), (0, .class_ 4), (0, u "java/lang/Object")] 7

/-- java/lang/Comparable -/
def k7 : Class := { plain "java/lang/Comparable" (some 0) with
  accessFlags := 1537
  interfaces := #[]
  cf := some (fileOf pool7 1 #[] #[] 1537 3 #[] #[])
  fields := #[]
  methods := #[]
  instanceTypes := #[]
  staticTypes := #[]
  resolved := Array.replicate 12 none
  statics := none }

def pool8 : Array CpInfo := pool [(1, .class_ 2), (0, u "java/lang/constant/Constable"), (0, .class_ 4), (0, u "java/lang/Object")] 6

/-- java/lang/constant/Constable -/
def k8 : Class := { plain "java/lang/constant/Constable" (some 0) with
  accessFlags := 1537
  interfaces := #[]
  cf := some (fileOf pool8 1 #[] #[] 1537 3 #[] #[])
  fields := #[]
  methods := #[]
  instanceTypes := #[]
  staticTypes := #[]
  resolved := Array.replicate 11 none
  statics := none }

def pool9 : Array CpInfo := pool [(1, .class_ 2), (0, u "java/lang/constant/ConstantDesc"), (0, .class_ 4), (0, u "java/lang/Object")] 32

/-- java/lang/constant/ConstantDesc -/
def k9 : Class := { plain "java/lang/constant/ConstantDesc" (some 0) with
  accessFlags := 1537
  interfaces := #[]
  cf := some (fileOf pool9 1 #[] #[] 1537 3 #[] #[])
  fields := #[]
  methods := #[]
  instanceTypes := #[]
  staticTypes := #[]
  resolved := Array.replicate 37 none
  statics := none }

def pool10 : Array CpInfo := pool [(1, .class_ 2), (0, u "java/lang/Float"), (39, .methodref 1 43), (0, .nameAndType 44 45), (0, u "<init>"), (0, u "(F)V"), (4, .methodref 51 52), (0, .class_ 53), (0, .nameAndType 44 54), (0, u "java/lang/Number"), (0, u "()V"), (0, .fieldref 1 56), (0, .nameAndType 57 58), (0, u "value"), (0, u "F"), (32, u "$assertionsDisabled"), (0, u "Z"), (52, u "TYPE"), (0, u "Ljava/lang/Class;"), (0, .class_ 148), (0, u "java/lang/Comparable"), (0, .class_ 150), (0, u "java/lang/constant/Constable"), (0, .class_ 152), (0, u "java/lang/constant/ConstantDesc"), (0, u "POSITIVE_INFINITY"), (1, u "NEGATIVE_INFINITY"), (1, u "NaN"), (1, u "MAX_VALUE"), (0, u "MIN_NORMAL"), (0, u "MIN_VALUE"), (1, u "SIZE"), (0, u "I"), (1, u "PRECISION"), (1, u "MAX_EXPONENT"), (1, u "MIN_EXPONENT"), (1, u "BYTES"), (3, u "serialVersionUID"), (0, u "J"), (9, u "valueOf"), (4, u "(F)Ljava/lang/Float;")] 86

def k10c0 : Code := { maxStack := 3, maxLocals := 1, code := jdk_118_method_4_code, exceptionTable := #[], attributes := #[] }
def k10m0 : Method := { name := "valueOf", desc := "(F)Ljava/lang/Float;", sig := { parameters := [.float], returnType := some (.object "java/lang/Float") }, accessFlags := 9, code := some k10c0 }
def k10c1 : Code := { maxStack := 2, maxLocals := 2, code := jdk_118_method_9_code, exceptionTable := #[], attributes := #[] }
def k10m1 : Method := { name := "<init>", desc := "(F)V", sig := { parameters := [.float], returnType := none }, accessFlags := 1, code := some k10c1 }
/-- java/lang/Float -/
def k10 : Class := { plain "java/lang/Float" (some 6) with
  accessFlags := 49
  interfaces := #[7, 8, 9]
  cf := some (fileOf pool10 1 #[] #[{ accessFlags := 9, nameIndex := 187, descriptorIndex := 192, attributes := #[] }, { accessFlags := 1, nameIndex := 44, descriptorIndex := 45, attributes := #[] }] 49 51 #[147, 149, 151] #[{ accessFlags := 25, nameIndex := 153, descriptorIndex := 58, attributes := #[] }, { accessFlags := 25, nameIndex := 155, descriptorIndex := 58, attributes := #[] }, { accessFlags := 25, nameIndex := 157, descriptorIndex := 58, attributes := #[] }, { accessFlags := 25, nameIndex := 159, descriptorIndex := 58, attributes := #[] }, { accessFlags := 25, nameIndex := 160, descriptorIndex := 58, attributes := #[] }, { accessFlags := 25, nameIndex := 161, descriptorIndex := 58, attributes := #[] }, { accessFlags := 25, nameIndex := 163, descriptorIndex := 164, attributes := #[] }, { accessFlags := 25, nameIndex := 166, descriptorIndex := 164, attributes := #[] }, { accessFlags := 25, nameIndex := 168, descriptorIndex := 164, attributes := #[] }, { accessFlags := 25, nameIndex := 170, descriptorIndex := 164, attributes := #[] }, { accessFlags := 25, nameIndex := 172, descriptorIndex := 164, attributes := #[] }, { accessFlags := 25, nameIndex := 145, descriptorIndex := 146, attributes := #[] }, { accessFlags := 18, nameIndex := 57, descriptorIndex := 58, attributes := #[] }, { accessFlags := 26, nameIndex := 176, descriptorIndex := 177, attributes := #[] }, { accessFlags := 4120, nameIndex := 91, descriptorIndex := 92, attributes := #[] }])
  fields := #[{ name := "POSITIVE_INFINITY", type := .float, accessFlags := 25, slot := 0, constantValue := 0 }, { name := "NEGATIVE_INFINITY", type := .float, accessFlags := 25, slot := 1, constantValue := 0 }, { name := "NaN", type := .float, accessFlags := 25, slot := 2, constantValue := 0 }, { name := "MAX_VALUE", type := .float, accessFlags := 25, slot := 3, constantValue := 0 }, { name := "MIN_NORMAL", type := .float, accessFlags := 25, slot := 4, constantValue := 0 }, { name := "MIN_VALUE", type := .float, accessFlags := 25, slot := 5, constantValue := 0 }, { name := "SIZE", type := .int, accessFlags := 25, slot := 6, constantValue := 0 }, { name := "PRECISION", type := .int, accessFlags := 25, slot := 7, constantValue := 0 }, { name := "MAX_EXPONENT", type := .int, accessFlags := 25, slot := 8, constantValue := 0 }, { name := "MIN_EXPONENT", type := .int, accessFlags := 25, slot := 9, constantValue := 0 }, { name := "BYTES", type := .int, accessFlags := 25, slot := 10, constantValue := 0 }, { name := "TYPE", type := (.object "java/lang/Class"), accessFlags := 25, slot := 11, constantValue := 0 }, { name := "value", type := .float, accessFlags := 18, slot := 0, constantValue := 0 }, { name := "serialVersionUID", type := .long, accessFlags := 26, slot := 12, constantValue := 0 }, { name := "$assertionsDisabled", type := .boolean, accessFlags := 4120, slot := 13, constantValue := 0 }]
  methods := #[k10m0, k10m1]
  instanceTypes := #[.float]
  staticTypes := #[.float, .float, .float, .float, .float, .float, .int, .int, .int, .int, .int, (.object "java/lang/Class"), .long, .boolean]
  resolved := Array.replicate 279 none
  mirror := some 0
  statics := none }

def pool11 : Array CpInfo := pool [(1, .class_ 2), (0, u "java/lang/Double"), (17, u "<init>"), (84, .methodref 1 106), (0, .nameAndType 20 107), (0, u "(D)V"), (5, .methodref 114 115), (0, .class_ 116), (0, .nameAndType 20 117), (0, u "java/lang/Number"), (0, u "()V"), (0, .fieldref 1 119), (0, .nameAndType 120 121), (0, u "value"), (0, u "D"), (51, u "TYPE"), (0, u "Ljava/lang/Class;"), (0, .class_ 176), (0, u "java/lang/Comparable"), (0, .class_ 178), (0, u "java/lang/constant/Constable"), (0, .class_ 180), (0, u "java/lang/constant/ConstantDesc"), (0, u "POSITIVE_INFINITY"), (3, u "NEGATIVE_INFINITY"), (2, u "NaN"), (2, u "MAX_VALUE"), (0, u "MIN_NORMAL"), (0, u "MIN_VALUE"), (2, u "SIZE"), (0, u "I"), (1, u "PRECISION"), (1, u "MAX_EXPONENT"), (1, u "MIN_EXPONENT"), (1, u "BYTES"), (3, u "serialVersionUID"), (0, u "J"), (14, u "valueOf"), (5, u "(D)Ljava/lang/Double;")] 58

def k11c0 : Code := { maxStack := 4, maxLocals := 2, code := jdk_117_method_4_code, exceptionTable := #[], attributes := #[] }
def k11m0 : Method := { name := "valueOf", desc := "(D)Ljava/lang/Double;", sig := { parameters := [.double], returnType := some (.object "java/lang/Double") }, accessFlags := 9, code := some k11c0 }
def k11c1 : Code := { maxStack := 3, maxLocals := 3, code := jdk_117_method_9_code, exceptionTable := #[], attributes := #[] }
def k11m1 : Method := { name := "<init>", desc := "(D)V", sig := { parameters := [.double], returnType := none }, accessFlags := 1, code := some k11c1 }
/-- java/lang/Double -/
def k11 : Class := { plain "java/lang/Double" (some 6) with
  accessFlags := 49
  interfaces := #[7, 8, 9]
  cf := some (fileOf pool11 1 #[] #[{ accessFlags := 9, nameIndex := 225, descriptorIndex := 231, attributes := #[] }, { accessFlags := 1, nameIndex := 20, descriptorIndex := 107, attributes := #[] }] 49 114 #[175, 177, 179] #[{ accessFlags := 25, nameIndex := 181, descriptorIndex := 121, attributes := #[] }, { accessFlags := 25, nameIndex := 185, descriptorIndex := 121, attributes := #[] }, { accessFlags := 25, nameIndex := 188, descriptorIndex := 121, attributes := #[] }, { accessFlags := 25, nameIndex := 191, descriptorIndex := 121, attributes := #[] }, { accessFlags := 25, nameIndex := 192, descriptorIndex := 121, attributes := #[] }, { accessFlags := 25, nameIndex := 193, descriptorIndex := 121, attributes := #[] }, { accessFlags := 25, nameIndex := 196, descriptorIndex := 197, attributes := #[] }, { accessFlags := 25, nameIndex := 199, descriptorIndex := 197, attributes := #[] }, { accessFlags := 25, nameIndex := 201, descriptorIndex := 197, attributes := #[] }, { accessFlags := 25, nameIndex := 203, descriptorIndex := 197, attributes := #[] }, { accessFlags := 25, nameIndex := 205, descriptorIndex := 197, attributes := #[] }, { accessFlags := 25, nameIndex := 173, descriptorIndex := 174, attributes := #[] }, { accessFlags := 18, nameIndex := 120, descriptorIndex := 121, attributes := #[] }, { accessFlags := 26, nameIndex := 209, descriptorIndex := 210, attributes := #[] }])
  fields := #[{ name := "POSITIVE_INFINITY", type := .double, accessFlags := 25, slot := 0, constantValue := 0 }, { name := "NEGATIVE_INFINITY", type := .double, accessFlags := 25, slot := 1, constantValue := 0 }, { name := "NaN", type := .double, accessFlags := 25, slot := 2, constantValue := 0 }, { name := "MAX_VALUE", type := .double, accessFlags := 25, slot := 3, constantValue := 0 }, { name := "MIN_NORMAL", type := .double, accessFlags := 25, slot := 4, constantValue := 0 }, { name := "MIN_VALUE", type := .double, accessFlags := 25, slot := 5, constantValue := 0 }, { name := "SIZE", type := .int, accessFlags := 25, slot := 6, constantValue := 0 }, { name := "PRECISION", type := .int, accessFlags := 25, slot := 7, constantValue := 0 }, { name := "MAX_EXPONENT", type := .int, accessFlags := 25, slot := 8, constantValue := 0 }, { name := "MIN_EXPONENT", type := .int, accessFlags := 25, slot := 9, constantValue := 0 }, { name := "BYTES", type := .int, accessFlags := 25, slot := 10, constantValue := 0 }, { name := "TYPE", type := (.object "java/lang/Class"), accessFlags := 25, slot := 11, constantValue := 0 }, { name := "value", type := .double, accessFlags := 18, slot := 0, constantValue := 0 }, { name := "serialVersionUID", type := .long, accessFlags := 26, slot := 12, constantValue := 0 }]
  methods := #[k11m0, k11m1]
  instanceTypes := #[.double]
  staticTypes := #[.double, .double, .double, .double, .double, .double, .int, .int, .int, .int, .int, (.object "java/lang/Class"), .long]
  resolved := Array.replicate 290 none
  mirror := some 1
  statics := none }

def pool12 : Array CpInfo := pool [(1, u "java/lang/Class"), (0, .class_ 1), (0, u "java/lang/Object"), (0, .class_ 3)] 0

/-- java/lang/Class -/
def k12 : Class := { plain "java/lang/Class" (some 0) with
  accessFlags := 49
  interfaces := #[]
  cf := some (fileOf pool12 2 #[] #[] 49 4 #[] #[])
  fields := #[]
  methods := #[]
  instanceTypes := #[]
  staticTypes := #[]
  resolved := Array.replicate 5 none
  statics := none }

def pool13 : Array CpInfo := pool [(1, u "java/lang/Cloneable"), (0, .class_ 1), (0, u "java/lang/Object"), (0, .class_ 3)] 3

/-- java/lang/Cloneable -/
def k13 : Class := { plain "java/lang/Cloneable" (some 0) with
  accessFlags := 1537
  interfaces := #[]
  cf := some (fileOf pool13 2 #[] #[] 1537 4 #[] #[])
  fields := #[]
  methods := #[]
  instanceTypes := #[]
  staticTypes := #[]
  resolved := Array.replicate 8 none
  statics := none }

/-- the primitive byte -/
def k14 : Class := { plain "byte" none with kind := .primitive 'B', accessFlags := 0x411 }
/-- [B -/
def k15 : Class := { plain "[B" (some 0) with kind := .array 14 .byte, interfaces := #[13, 5], accessFlags := 1041 }

/-- the primitive int -/
def k16 : Class := { plain "int" none with kind := .primitive 'I', accessFlags := 0x411 }
/-- [I -/
def k17 : Class := { plain "[I" (some 0) with kind := .array 16 .int, interfaces := #[13, 5], accessFlags := 1041 }

def heap : Heap := #[{ cls := 12, slots := #[], vm := .mirror 10 },
  { cls := 12, slots := #[], vm := .mirror 11 }]
def classes : Array Class := #[k0, k1, k2, k3, k4, k5, k6, k7, k8, k9, k10, k11, k12, k13, k14, k15, k16, k17]
def interned : List (Array UInt16 × Addr) := []
def slotsUsed : Nat := 0
def theMethod : MethodId := ⟨1, 1⟩
def args0 : Array Value := #[.int 1, .int 2]
def aboutOver (below : List Frame) : State where
  vm := { classes := classes, interned := interned.toArray }
  heap := heap
  slotsUsed := slotsUsed
  threads := #[{ frames := .invoking theMethod args0 :: below }]
def below0 : List Frame := [.native { method := ⟨0, 0⟩, args := #[] }]
def about1 : State := aboutOver below0
def p0 : Program := .bare "" "" ""
def e0 : Env := launch0.env 0 0 0
theorem w_frames : about1.frames = Frame.invoking theMethod args0 :: below0 := rfl
set_option maxRecDepth 65536 in
theorem w_args : argsFit about1.vm theMethod args0 = true := by decide +kernel
set_option maxRecDepth 65536 in
theorem w_heap : heapFits about1 = true := by decide +kernel
set_option maxRecDepth 65536 in
theorem w_runnable : about1.curStatus? = some .runnable := by decide +kernel
set_option maxRecDepth 65536 in
theorem w_alone : about1.alone = true := by decide +kernel
set_option maxRecDepth 65536 in
theorem w_named : about1.methodNamed? x = some theMethod := by decide +kernel
set_option maxRecDepth 65536 in
theorem w_hears : about1.hears theMethod below0 = true := by decide +kernel
set_option maxRecDepth 65536 in
theorem w_ripe : about1.ripe theMethod args0 below0 = true := by decide +kernel
theorem w_running : about1.status = .running := rfl
set_option maxRecDepth 65536 in
theorem w_room : about1.hasRoom e0.platform room_1 = true :=
  launch0.hasRoom_least _ room_1 (by decide +kernel) (by decide +kernel) (by decide +kernel) (by decide +kernel) (by decide +kernel) (by decide +kernel)
theorem allAtoms_all (ts : List Jvm.Cond) (a : Array Jvm.Value) (st : Jvm.State) : (allAtoms ts).before a st = ts.all (fun c => c.before a st) := by
  induction ts with
  | nil => rfl
  | cons c t ih =>
    show (Jvm.Cond.and c (allAtoms t)).before a st = _
    rw [Jvm.Cond.before_and, ih, List.all_cons]
def words1 : List Jvm.Cond := Jvm.Cond.code x code maxLocals ret :: tables_1
/-- a 'code' word, met by the world's own term for the bytes: nothing is compared byte by byte -/
theorem code_word {y : MethodName} {bytes : ByteArray} {mx : Nat} {rt : Option FieldType} {a : Array Value} {s : State} {m : MethodId} {meth : Method} {c : Code} (h1 : s.methodNamed? y = some m) (h2 : s.vm.method? m = some meth) (h3 : meth.code = some c) (h4 : c.code = bytes)
    (h5 : (c.maxLocals == mx && c.exceptionTable.isEmpty && decide (c.maxStack ≤ mostOperands) && decide (meth.sig.returnType = rt) && !meth.locks && decide (parseMethodDescriptor y.desc = some meth.sig)) = true) : (Jvm.Cond.code y bytes mx rt).before a s = true := by
  simp only [Bool.and_eq_true, beq_iff_eq, Bool.not_eq_true', decide_eq_true_eq] at h5
  obtain ⟨⟨⟨⟨⟨g1, g2⟩, g3⟩, g4⟩, g5⟩, g6⟩ := h5
  simp [Cond.before, Cond.holds, Cond.value, h1, h2, h3, h4, g1, g2, g3, g4, g5, g6]
def isCode : Jvm.Cond → Bool
  | .code _ _ _ _ => true
  | _ => false
theorem all_split {L : List Jvm.Cond} {P : Jvm.Cond → Bool} (h1 : L.all (fun c => isCode c || P c) = true) (h2 : ∀ c ∈ L.filter isCode, P c = true) : L.all P = true := by
  refine List.all_eq_true.mpr fun c hc => ?_
  have h := List.all_eq_true.mp h1 c hc
  rcases Bool.eq_false_or_eq_true (isCode c) with hi | hi
  · exact h2 c (List.mem_filter.mpr ⟨hc, hi⟩)
  · simpa [hi] using h
set_option maxRecDepth 65536 in
theorem w_c0 : (Jvm.Cond.code x code maxLocals ret).before args0 about1 = true := code_word (m := ⟨1, 1⟩) (meth := k1m1) (c := k1c1) (by decide +kernel) rfl rfl rfl (by decide +kernel)
set_option maxRecDepth 65536 in
theorem w_c1 : (Jvm.Cond.code ({ cls := "com/example/tessera/tessera/FloatType", name := "<init>", desc := "(I)V" } : Jvm.MethodName) prog_19_method_1_code (2 : Nat) (Option.none : Option Jvm.ClassFile.FieldType)).before args0 about1 = true := code_word (m := ⟨4, 0⟩) (meth := k4m0) (c := k4c0) (by decide +kernel) rfl rfl rfl (by decide +kernel)
set_option maxRecDepth 65536 in
theorem w_c2 : (Jvm.Cond.code ({ cls := "java/lang/Record", name := "<init>", desc := "()V" } : Jvm.MethodName) jdk_30_method_1_code (1 : Nat) (Option.none : Option Jvm.ClassFile.FieldType)).before args0 about1 = true := code_word (m := ⟨2, 0⟩) (meth := k2m0) (c := k2c0) (by decide +kernel) rfl rfl rfl (by decide +kernel)
set_option maxRecDepth 65536 in
theorem w_c3 : (Jvm.Cond.code ({ cls := "java/lang/Object", name := "<init>", desc := "()V" } : Jvm.MethodName) object_method_1_code (1 : Nat) (Option.none : Option Jvm.ClassFile.FieldType)).before args0 about1 = true := code_word (m := ⟨0, 0⟩) (meth := k0m0) (c := k0c0) (by decide +kernel) rfl rfl rfl (by decide +kernel)
set_option maxRecDepth 65536 in
theorem w_c4 : (Jvm.Cond.code ({ cls := "com/example/tessera/tessera/FloatType", name := "valueClass", desc := "()Ljava/lang/Class;" } : Jvm.MethodName) prog_19_method_8_code (1 : Nat) (Option.some (Jvm.ClassFile.FieldType.object "java/lang/Class"))).before args0 about1 = true := code_word (m := ⟨4, 2⟩) (meth := k4m2) (c := k4c2) (by decide +kernel) rfl rfl rfl (by decide +kernel)
set_option maxRecDepth 65536 in
theorem w_c5 : (Jvm.Cond.code ({ cls := "com/example/tessera/tessera/FloatType", name := "box", desc := "(D)Ljava/lang/Object;" } : Jvm.MethodName) prog_19_method_2_code (4 : Nat) (Option.some (Jvm.ClassFile.FieldType.object "java/lang/Object"))).before args0 about1 = true := code_word (m := ⟨4, 1⟩) (meth := k4m1) (c := k4c1) (by decide +kernel) rfl rfl rfl (by decide +kernel)
set_option maxRecDepth 65536 in
theorem w_c6 : (Jvm.Cond.code ({ cls := "java/lang/Float", name := "valueOf", desc := "(F)Ljava/lang/Float;" } : Jvm.MethodName) jdk_118_method_4_code (1 : Nat) (Option.some (Jvm.ClassFile.FieldType.object "java/lang/Float"))).before args0 about1 = true := code_word (m := ⟨10, 0⟩) (meth := k10m0) (c := k10c0) (by decide +kernel) rfl rfl rfl (by decide +kernel)
set_option maxRecDepth 65536 in
theorem w_c7 : (Jvm.Cond.code ({ cls := "java/lang/Float", name := "<init>", desc := "(F)V" } : Jvm.MethodName) jdk_118_method_9_code (2 : Nat) (Option.none : Option Jvm.ClassFile.FieldType)).before args0 about1 = true := code_word (m := ⟨10, 1⟩) (meth := k10m1) (c := k10c1) (by decide +kernel) rfl rfl rfl (by decide +kernel)
set_option maxRecDepth 65536 in
theorem w_c8 : (Jvm.Cond.code ({ cls := "java/lang/Number", name := "<init>", desc := "()V" } : Jvm.MethodName) jdk_18_method_1_code (1 : Nat) (Option.none : Option Jvm.ClassFile.FieldType)).before args0 about1 = true := code_word (m := ⟨6, 0⟩) (meth := k6m0) (c := k6c0) (by decide +kernel) rfl rfl rfl (by decide +kernel)
set_option maxRecDepth 65536 in
theorem w_c9 : (Jvm.Cond.code ({ cls := "java/lang/Double", name := "valueOf", desc := "(D)Ljava/lang/Double;" } : Jvm.MethodName) jdk_117_method_4_code (2 : Nat) (Option.some (Jvm.ClassFile.FieldType.object "java/lang/Double"))).before args0 about1 = true := code_word (m := ⟨11, 0⟩) (meth := k11m0) (c := k11c0) (by decide +kernel) rfl rfl rfl (by decide +kernel)
set_option maxRecDepth 65536 in
theorem w_c10 : (Jvm.Cond.code ({ cls := "java/lang/Double", name := "<init>", desc := "(D)V" } : Jvm.MethodName) jdk_117_method_9_code (3 : Nat) (Option.none : Option Jvm.ClassFile.FieldType)).before args0 about1 = true := code_word (m := ⟨11, 1⟩) (meth := k11m1) (c := k11c1) (by decide +kernel) rfl rfl rfl (by decide +kernel)
def codes1 : List Jvm.Cond := [Jvm.Cond.code x code maxLocals ret, Jvm.Cond.code ({ cls := "com/example/tessera/tessera/FloatType", name := "<init>", desc := "(I)V" } : Jvm.MethodName) prog_19_method_1_code (2 : Nat) (Option.none : Option Jvm.ClassFile.FieldType), Jvm.Cond.code ({ cls := "java/lang/Record", name := "<init>", desc := "()V" } : Jvm.MethodName) jdk_30_method_1_code (1 : Nat) (Option.none : Option Jvm.ClassFile.FieldType), Jvm.Cond.code ({ cls := "java/lang/Object", name := "<init>", desc := "()V" } : Jvm.MethodName) object_method_1_code (1 : Nat) (Option.none : Option Jvm.ClassFile.FieldType), Jvm.Cond.code ({ cls := "com/example/tessera/tessera/FloatType", name := "valueClass", desc := "()Ljava/lang/Class;" } : Jvm.MethodName) prog_19_method_8_code (1 : Nat) (Option.some (Jvm.ClassFile.FieldType.object "java/lang/Class")), Jvm.Cond.code ({ cls := "com/example/tessera/tessera/FloatType", name := "box", desc := "(D)Ljava/lang/Object;" } : Jvm.MethodName) prog_19_method_2_code (4 : Nat) (Option.some (Jvm.ClassFile.FieldType.object "java/lang/Object")), Jvm.Cond.code ({ cls := "java/lang/Float", name := "valueOf", desc := "(F)Ljava/lang/Float;" } : Jvm.MethodName) jdk_118_method_4_code (1 : Nat) (Option.some (Jvm.ClassFile.FieldType.object "java/lang/Float")), Jvm.Cond.code ({ cls := "java/lang/Float", name := "<init>", desc := "(F)V" } : Jvm.MethodName) jdk_118_method_9_code (2 : Nat) (Option.none : Option Jvm.ClassFile.FieldType), Jvm.Cond.code ({ cls := "java/lang/Number", name := "<init>", desc := "()V" } : Jvm.MethodName) jdk_18_method_1_code (1 : Nat) (Option.none : Option Jvm.ClassFile.FieldType), Jvm.Cond.code ({ cls := "java/lang/Double", name := "valueOf", desc := "(D)Ljava/lang/Double;" } : Jvm.MethodName) jdk_117_method_4_code (2 : Nat) (Option.some (Jvm.ClassFile.FieldType.object "java/lang/Double")), Jvm.Cond.code ({ cls := "java/lang/Double", name := "<init>", desc := "(D)V" } : Jvm.MethodName) jdk_117_method_9_code (3 : Nat) (Option.none : Option Jvm.ClassFile.FieldType)]
set_option maxRecDepth 65536 in
theorem codes_eq : words1.filter isCode = codes1 := rfl
theorem w_codes : ∀ c ∈ words1.filter isCode, c.before args0 about1 = true := by
  rw [codes_eq]
  intro c hc
  simp only [codes1, List.mem_cons, List.not_mem_nil, or_false] at hc
  rcases hc with rfl | rfl | rfl | rfl | rfl | rfl | rfl | rfl | rfl | rfl | rfl
  · exact w_c0
  · exact w_c1
  · exact w_c2
  · exact w_c3
  · exact w_c4
  · exact w_c5
  · exact w_c6
  · exact w_c7
  · exact w_c8
  · exact w_c9
  · exact w_c10
set_option maxRecDepth 65536 in
theorem w_t1 : (words1.take 24).all (fun c => isCode c || c.before args0 about1) = true := by decide +kernel
set_option maxRecDepth 65536 in
theorem w_t2 : ((words1.drop 24).take 24).all (fun c => isCode c || c.before args0 about1) = true := by decide +kernel
set_option maxRecDepth 65536 in
theorem w_t3 : ((words1.drop 24).drop 24).all (fun c => isCode c || c.before args0 about1) = true := by decide +kernel
theorem w_tables : (allAtoms (Jvm.Cond.code x code maxLocals ret :: tables_1)).before args0 about1 = true := by
  rw [allAtoms_all]
  show words1.all (fun c => c.before args0 about1) = true
  refine all_split ?_ w_codes
  rw [← List.take_append_drop 24 words1, List.all_append, w_t1, ← List.take_append_drop 24 (words1.drop 24), List.all_append, w_t2, w_t3]
  rfl
set_option maxRecDepth 65536 in
theorem w_case : (Jvm.Cond.and given_1 narrow_1).before args0 about1 = true := by decide +kernel
theorem w_applies : (headSpec (Jvm.Cond.code x code maxLocals ret :: tables_1) room_1).applies x e0.platform about1 = true :=
  (Spec.applies_iff w_frames).mpr ⟨w_running, w_runnable, w_alone, w_named, w_hears, w_ripe, w_room, w_tables⟩
theorem atStart : AtStart classFile x code maxLocals ret World_1 tables_1 room_1 Calls_1 rest_1 Pre_1 launch0 p0 e0 about1 theMethod args0 below0 :=
  ⟨lists_1, trivial, launch0.admits_env _ _ _, launch0.least_env, fairChoices_fair.cas, fairChoices_fair.clock, w_frames, w_args, w_heap, w_applies, ⟨⟨10, k10, 0, by decide +kernel, rfl, rfl, _, rfl, rfl⟩, ⟨⟨11, k11, 1, by decide +kernel, rfl, rfl, _, rfl, rfl⟩, trivial⟩⟩, trivial, w_case⟩
end start1
theorem witness_1 : WitnessClaimed_1 := ⟨start1.p0, start1.e0, start1.about1, start1.theMethod, start1.args0, start1.below0, start1.atStart⟩
end Jvm.Pilot.@@N@@
