import JvmDerived
import JvmDerived.Pilot.@@N@@Statement
import JvmDerived.Pilot.@@N@@Code
set_option linter.unusedVariables false
set_option linter.unusedSimpArgs false
namespace Jvm.Pilot.@@N@@
open Jvm Jvm.ClassFile Sem Op Lib Jvm.Free Jvm.Stand Jvm.LawKit Jvm.RoadKit Bundle Jvm.Pilot.@@N@@.Jvm.D
def own_Go (tb : Tables) (e : Env) (below : List Frame) (P : State → Outcome → Prop) (T : State) (g : JFrame) : Prop := ∃ t o, Steps tb e below (T.setTop g) t ∧ P t o
theorem own_go {tb : Tables} {e : Env} {below : List Frame} {P : State → Outcome → Prop} {T T' : State} {g g' : JFrame} (k : ∀ target, Steps tb e below (T'.setTop g') target → Steps tb e below (T.setTop g) target) (h : own_Go tb e below P T' g') : own_Go tb e below P T g := by
  obtain ⟨t, o, a, b⟩ := h
  exact ⟨t, o, k t a, b⟩
theorem own_cast {P Q : Prop} (h : P = Q) (p : P) : Q := h ▸ p
def own_upd (f : Nat → Value) (k : Nat) (v : Value) : Nat → Value := fun i => if i = k then v else f i
/-- an array of length z at a, its element i being f i -/
def own_AV (Z : State) (h : Heap) (a : Addr) (ty : FieldType) (z : Int32) (f : Nat → Value) : Prop := ¬ z < 0 ∧ ∃ c : Cell, Arr Z h a c ty ∧ c.slots.size = z.toNatClampNeg ∧ ∀ i, i < c.slots.size → c.slots[i]? = some (f i)
section
variable {Z : State} {h h' : Heap} {a b : Addr} {ty : FieldType} {z j : Int32} {f : Nat → Value} {v w : Value} {sl k : Nat} {ws : List Addr} {cA : ClassId}
theorem own_AV.lt (F : own_AV Z h a ty z f) : a < h.size := by obtain ⟨_, c, A, -⟩ := F; exact A.lt
theorem own_AV.ext (F : own_AV Z h a ty z f) (E : Ext h h') : own_AV Z h' a ty z f := by obtain ⟨q, c, A, r⟩ := F; exact ⟨q, c, A.ext E, r⟩
theorem own_AV.other (F : own_AV Z h b ty z f) (W : Wr h h' a sl v) (q : b ≠ a) : own_AV Z h' b ty z f := by obtain ⟨q1, c, A, r⟩ := F; exact ⟨q1, c, A.other W q, r⟩
theorem own_AV.keep (F : own_AV Z h a ty z f) (K : Keep h h' ws) (q : a ∉ ws) : own_AV Z h' a ty z f := by obtain ⟨q1, c, A, r⟩ := F; exact ⟨q1, c, ⟨K.2.1 a c A.1 q, A.2⟩, r⟩
theorem own_AV.new (A : Arr Z h a (newA cA ty z) ty) (q : ¬ z < 0) : own_AV Z h a ty z (fun _ => defaultValue ty) :=
  ⟨q, _, A, sz_new _ _ _, fun i hi => by
    rw [sz_new] at hi
    simp [newA, hi]⟩
theorem own_AV.set (F : own_AV Z h a ty z f) (W : Wr h h' a j.toNatClampNeg v) (hk : j.toNatClampNeg = k) : own_AV Z h' a ty z (own_upd f k v) := by
  obtain ⟨q, c, A, s, t⟩ := F
  subst hk
  refine ⟨q, _, A.same W, by rw [sz_set]; exact s, fun i hi => ?_⟩
  rw [sz_set] at hi
  by_cases e : i = j.toNatClampNeg
  · subst e; simp [own_upd, Cell.setSlot, hi]
  · simp only [own_upd, if_neg e, Cell.setSlot]
    rw [Array.getElem?_setIfInBounds_ne (Ne.symm e)]; exact t i hi
theorem own_at {c : Cell} (t : ∀ i, i < c.slots.size → c.slots[i]? = some (f i)) (s : c.slots.size = z.toNatClampNeg) (hin : ¬ (j < 0 ∨ c.slots.size ≤ j.toNatClampNeg)) (hk : j.toNatClampNeg = k) (hv : f k = v) : c.slots[j.toNatClampNeg]? = some v := by
  rw [t _ (Nat.lt_of_not_le fun q => hin (Or.inr q)), hk, hv]
theorem own_sta_keep {C n d : String} (F : Sta Z h C n d w) (K : Keep h h' ws) (q : ∀ x ∈ ws, ∀ c : Cell, h[x]? = some c → c.vm.isStatics = false) : Sta Z h' C n d w := by
  obtain ⟨cf, i, k, f, st, cell, h1, h2, h3, h4, h5, h6, h7⟩ := F
  exact ⟨cf, i, k, f, st, cell, h1, h2, h3, h4, K.2.1 st cell h5 (fun m => by rw [q st m cell h5] at h6; cases h6), h6, h7⟩
theorem own_exa_plain {C : String} (F : Exa Z h a C) : ∀ c : Cell, h[a]? = some c → c.vm.isStatics = false := fun c hc => by
  obtain ⟨c1, k, h1, -, -, h4, -⟩ := F; cases h1.symm.trans hc; exact h4
theorem own_AV.plain (F : own_AV Z h a ty z f) : ∀ c : Cell, h[a]? = some c → c.vm.isStatics = false := fun c hc => by
  obtain ⟨_, c1, A, -⟩ := F; cases A.1.symm.trans hc; exact A.plain
end
theorem own_narb {x : Int32} (h : x = 0 ∨ x = 1) : nar .boolean x = x := by rcases h with rfl | rfl <;> rfl
theorem own_exa_ref {args : Array Value} {s : State} {t : Term} {C : String} (hx : (Jvm.Cond.exactly t C).value args s none s [] = some true) : ∃ a, t.eval args s none [] s = some (.ref a) ∧ Exa s s.heap a C := by
  obtain ⟨a', c', cell, k, e1, -⟩ := Cond.exactly_spec (Cond.before_iff.mpr hx)
  exact ⟨a', e1, Exa.start e1 hx⟩
theorem own_eq_int {args : Array Value} {s : State} {t : Term} {k : Int32} (h : (Jvm.Cond.eq t (Jvm.Term.int k)).value args s none s [] = some true) : t.eval args s none [] s = some (.int k) := by
  cases hv : t.eval args s none [] s with
  | none => simp [Cond.value, hv] at h
  | some v => cases v <;> simp [Cond.value, hv, Term.eval] at h <;> simp [h]
theorem own_fld_int {args : Array Value} {s : State} {t : Term} {C n d : String} {a : Addr} {k : Int32} (ev : t.eval args s none [] s = some (.ref a)) (h : (Jvm.Cond.eq (Jvm.Term.field t C n d) (Jvm.Term.int k)).value args s none s [] = some true) : Fld s s.heap a C n d (.int k) :=
  Fld.start ((fld_at ev).symm.trans (own_eq_int h))
theorem own_nar_c (x : Int32) : nar .char (x.toUInt32.toUInt16.toUInt32.toInt32) = x.toUInt32.toUInt16.toUInt32.toInt32 := Value.int.inj (Jvm.Free.XT.narrow_c x)
theorem own_nar_b (x : Int32) : nar .byte (x.toInt8.toInt32) = x.toInt8.toInt32 := Value.int.inj (Jvm.Free.XT.narrow_b x)
theorem own_NSroot {Z : State} {a0 : Array Value} {O K : String} {n : Nat} (w : (Jvm.Cond.noSuperclass O).before a0 Z = true) (wk : (Jvm.Cond.instantiable K n).before a0 Z = true) (hn : O ≠ K) : NS Z O K := by
  obtain ⟨c, k, h1, h2, h3, -, -⟩ := Cond.noSuperclass_spec w
  obtain ⟨t, kt, g1, -⟩ := Cond.instantiable_spec wk
  have ne := ids_ne h1 g1 hn
  refine ⟨c, t, h1, g1, fun fuel => ?_⟩
  cases fuel with
  | zero => rfl
  | succ f => simp [Vm.isSubclassAux, ne, h2, h3]
theorem own_NSno {Z : State} {a0 : Array Value} {C S K : String} {m : Nat} (w : (Jvm.Cond.superclass C S).before a0 Z = true) (wk : (Jvm.Cond.instantiable K m).before a0 Z = true) (n : NS Z C K) (hn : C ≠ K) : ∃ c t, Z.vm.findClass C = some c ∧ Z.vm.findClass K = some t ∧ Z.vm.assignable c t = false := by
  obtain ⟨c, t, h0, g0, n3⟩ := n
  obtain ⟨p, k, kp, h1, h2, h3, h4, h5, -, h7⟩ := Cond.superclass_spec h0 w
  obtain ⟨t', k', g1, g2, g5, g7, -⟩ := Cond.instantiable_spec wk
  cases g0.symm.trans g1
  have g8 : k'.isInterface = false := by
    cases hi : k'.isInterface <;> simp [hi] at g7 ⊢
  have ne := ids_ne h0 g0 hn
  refine ⟨c, t, h0, g0, ?_⟩
  show Z.vm.assignableAux (255 + 1) c t = false
  simp [Vm.assignableAux, ne, h2, g2, h5, g5, g8, Vm.isSubclass, n3]
theorem own_monoW {s t : State} {o : Outcome} {L : List Loc} {k n k' n' : Nat} (h : ReturnedEndW s o t L k n) (hk : k ≤ k') (hn : n ≤ n') : ReturnedEndW s o t L k' n' := ⟨h.1, h.2.1, h.2.2.1, h.2.2.2.mono hk hn⟩
theorem own_ldcSL {p : Program} {l : Launch} {e : Env} {R : Room} {s : State} {vm0 : Vm} {m : MethodId} {args : Array Value} {below : List Frame} {meth : Method} {c : Code} {T : State} {locs : List Loc} {cells slots : Nat} {Z : State} {a0 : Array Value} {h : Heap}
    (X : Stand p l e R (s.setVm vm0) m args below meth c T locs cells slots) (hx : p.tables.exec = Jvm.exec) (hZ : Z.Warmed39 vm0) {own text : String} {index : Nat} (hown : vm0.findClass own = some m.cls) (w : (Jvm.Cond.stringLink own index text).before a0 Z = true) (wS : ∀ a ∈ Bundle.stringAtoms, a.before a0 Z = true)
    (eT : T.heap = h) {k0 : Nat} (hS : s.Since vm0 k0) (hk : k0 ≤ h.size) {g : JFrame} (hg : g.method = m) (hd : decode c.code g.pc = .ok (.ldc index, 2)) {n : Nat} (hn : 4 * text.toList.length ≤ n) (hbig : n ≤ 536870912) (hc : cells + 2 ≤ R.cells) (hl : slots + (n + 4) ≤ R.slots) :
    ∃ (a : Addr) (T' : State) (h' : Heap) (k1 : Nat), Stand p l e R (s.setVm T'.vm) m args below meth c T' locs (cells + 2) (slots + (n + 4)) ∧ T'.heap = h' ∧ Ext h h' ∧ s.Since T'.vm k1 ∧ k1 ≤ h'.size ∧ Z.Warmed39 (s.setVm T'.vm).vm ∧ (s.setVm T'.vm).vm.findClass own = some m.cls ∧ Lit (s.setVm T'.vm) own index a ∧ (s.setVm vm0).Warmed39 T'.vm ∧
      ∀ target, Steps p.tables e below (T'.setTop { g with pc := g.pc + 2, stack := .ref a :: g.stack }) target → Steps p.tables e below (T.setTop g) target := by
  have wS' : ∀ d ∈ Bundle.stringAtoms, d.before args (s.setVm vm0) = true := fun d hd => by
    have q := wS d hd
    simp only [Bundle.stringAtoms, List.mem_cons, List.not_mem_nil, or_false] at hd
    rcases hd with rfl | rfl | rfl | rfl | rfl | rfl | rfl
    · exact mv (s := s.setVm vm0) hZ q
    · exact mv (s := s.setVm vm0) hZ q
    · exact mvA (s := s.setVm vm0) hZ q
    · exact mv (s := s.setVm vm0) hZ q
    · exact mv (s := s.setVm vm0) hZ q
    · exact mv (s := s.setVm vm0) hZ q
    · exact mv (s := s.setVm vm0) hZ q
  obtain ⟨a, T', X', hS', ⟨kk, hkk, hrr⟩, hb, -, st⟩ := X.ldcStringCold hx (own := own) hown (mvS hZ w) wS' hg hd hn hbig hc hl
  subst eT
  have hf : T'.vm.findClass own = some m.cls := by rw [hS'.1.alike.findClass]; exact hown
  exact ⟨a, T', _, _, X', rfl, ext_of hb, hS.trans hS' (Nat.le_trans hk (ext_of hb).1), Nat.le_refl _, State.Warmed39.trans (t := s.setVm vm0) hZ hS'.1, hf, by simp [Lit, State.resolvedAt?, hf, hkk, hrr], hS'.1, st⟩
theorem own_selfsel {Z s : State} {a0 args : Array Value} {y : MethodName} {n : Nat} (hZ : Z.Warmed39 s.vm) (wi : (Jvm.Cond.instantiable y.cls n).before a0 Z = true) (wm : (Jvm.Cond.instanceMethod y).before a0 Z = true) (wp : (Jvm.Cond.privateMethod y).before a0 Z = true) (hy : y.cls ≠ "java/lang/invoke/MethodHandle" ∧ y.cls ≠ "java/lang/invoke/VarHandle") : (Jvm.Cond.selects y.cls y y).before args s = true := by
  obtain ⟨c, k, h1, h2, -, h4, -⟩ := Cond.instantiable_spec (mvT (args := args) hZ wi)
  have g8 : k.isInterface = false := by
    cases hi : k.isInterface <;> simp [hi] at h4 ⊢
  exact selects_self_of_private h1 h2 g8 (Cond.privateMethod_at (mvP hZ wp (args := #[]))) (mvT hZ wm) hy
theorem own_addeq {k a b m n : Nat} (h : k = a + b) (h1 : a = m) (h2 : m + b = n) : k = n := by subst h1; exact h.trans h2
theorem own_lt {a b : Nat} (h : a < b) : a < b := h
theorem own_ne {a b : Nat} (h : a < b ∨ b < a) : a ≠ b := by omega
def own_lts : List Nat → Prop
  | a :: b :: r => a < b ∧ own_lts (b :: r)
  | _ => True

theorem own_pn0 : plainName "java/lang/Record" = true := by first | (simp [plainName, overriddenIn]; done) | decide +kernel
theorem own_pn1 : plainName "com/example/epsilonet/epsilonet/service/ObservationTree$Outcome" = true := by first | (simp [plainName, overriddenIn]; done) | decide +kernel
theorem own_pn2 : plainName "java/lang/Number" = true := by first | (simp [plainName, overriddenIn]; done) | decide +kernel
theorem own_pn3 : plainName "java/lang/Long" = true := by first | (simp [plainName, overriddenIn]; done) | decide +kernel
theorem own_pn4 : plainName "com/example/epsilonet/epsilonet/service/OutcomeEqualsPinLaw" = true := by first | (simp [plainName, overriddenIn]; done) | decide +kernel
theorem own_pd0 : parseMethodDescriptor "()V" = some ⟨[], none⟩ := by decide +kernel
theorem own_pd1 : parseMethodDescriptor "(J)V" = some ⟨[.long], none⟩ := by decide +kernel
theorem own_pd2 : parseMethodDescriptor "(JJ)V" = some ⟨[.long, .long], none⟩ := by decide +kernel
theorem own_pd3 : parseMethodDescriptor "(Ljava/lang/Object;)Z" = some ⟨[(.object "java/lang/Object")], some .boolean⟩ := by decide +kernel
theorem own_pd4 : parseMethodDescriptor "(J)Ljava/lang/Long;" = some ⟨[.long], some (.object "java/lang/Long")⟩ := by decide +kernel
theorem own_arr_start {args : Array Value} {s : State} {t : Term} {ty : FieldType} {n : Int32} {a : Addr} (ev : t.eval args s none [] s = some (.ref a)) (ha : (Jvm.Cond.arrayOf t ty).value args s none s [] = some true) (hl : (Jvm.Cond.eq (Jvm.Term.length t) (Jvm.Term.int n)).value args s none s [] = some true) (hn : ¬ n < 0) :
    ∃ c : Cell, Arr s s.heap a c ty ∧ s.arrayAt? a = some c ∧ c.slots.size = n.toNatClampNeg := by
  obtain ⟨c, A⟩ := Arr.start ev ha
  have hA : s.arrayAt? a = some c := A.fin (Vm.Alike.refl _)
  have h := own_eq_int hl
  simp [Term.eval, ev, hA] at h
  refine ⟨c, A, hA, ?_⟩
  obtain ⟨h1, h2⟩ := h
  have b := idx_in (i := c.slots.size) (n := 2147483647)
  subst h2
  simp only [Int32.toNatClampNeg]
  have : (Nat.toInt32 c.slots.size).toInt = (c.slots.size : Int) := by
    simp [Nat.toInt32, Int32.toInt_ofNat']
    have hs : ((Int32.size : Nat) : Int) = 4294967296 := rfl
    rw [Int.bmod_eq_of_le] <;> omega
  omega
theorem own_elem {args : Array Value} {s : State} {t : Term} {a : Addr} {c : Cell} {i : Nat} (ev : ∀ idx, t.eval args s none idx s = some (.ref a)) (hA : s.arrayAt? a = some c) (hi : i < 2147483648) : (Jvm.Term.elem t (Jvm.Term.index 0)).eval args s none [i] s = c.slots[i]? := by
  have e : (Nat.toInt32 i).toInt = (i : Int) := by
    simp [Nat.toInt32, Int32.toInt_ofNat']
    have hs : ((Int32.size : Nat) : Int) = 4294967296 := rfl
    rw [Int.bmod_eq_of_le] <;> omega
  have hn : ¬ (Nat.toInt32 i) < 0 := by rw [Int32.lt_iff_toInt_lt, e]; show ¬ (i : Int) < 0; omega
  have q := elem_f (args := args) (first := s) (o := none) (idx := [i]) (s := s) (a := Jvm.Term.index 0) (j := Nat.toInt32 i) (ev [i]) rfl hA hn
  rw [q]
  congr 1
  simp only [Int32.toNatClampNeg, e]; omega
theorem own_d2_0 : decode jdk_30_method_1_code 0 = .ok (.aload_n 0, 1) := by decide +kernel
theorem own_d2_1 : decode jdk_30_method_1_code 1 = .ok (.invokespecial 1, 3) := by decide +kernel
theorem own_d2_4 : decode jdk_30_method_1_code 4 = .ok (.return_, 1) := by decide +kernel
theorem own_ef_own_rm2 (m : MethodId) (x0 : Addr) : entryFrame m #[(.ref x0)] 1 = mkF m 0 #[.val (.ref x0)] [] := by first | (simp [entryFrame, mkF, argsToLocals, Value.category]; done) | rfl
def own_Q2 (Z : State) (a_1 : Addr) (h0 : Heap) (n0 : Nat) (v : Option Value) (h : Heap) (L : List Loc) : Prop := v = none ∧ Fr n0 L ∧ h = h0
set_option maxRecDepth 65536 in
set_option maxHeartbeats 40000000 in
theorem own_rm2 (l : Launch) (Z : State) (a0 : Array Value) (hw : ∀ d ∈ tables_1, d.before a0 Z = true) (ws : List Jvm.Cond) (a_1 : Addr) (h0 : Heap) (n0 : Nat) (Z0 : n0 ≤ h0.size) :
    MetFree l (⟨"java/lang/Record", "<init>", "()V"⟩ : MethodName) (head1 (Jvm.Cond.code (⟨"java/lang/Record", "<init>", "()V"⟩ : MethodName) jdk_30_method_1_code 1 none :: ws) ({ frames := 1, cells := 0, slots := 0, locals := 12 } : Room)) (fun a U => a = #[(.ref a_1)] ∧ Z.Warmed39 U.vm ∧ U.heap = h0) (fun _ _ _ _ _ => True) (fun _ U o U' => ∃ v L, o = .returned v ∧ own_Q2 Z a_1 h0 n0 v U'.heap L ∧ FrameEnd U o U' L ({ frames := 1, cells := 0, slots := 0, locals := 12 } : Room).cells ({ frames := 1, cells := 0, slots := 0, locals := 12 } : Room).slots) := by
  refine MetFree.of_bodySF (plainFor_of_name own_pn0) hisR ?_
  intro p e s m args below meth c s₁ Bd hml0 hP hK
  obtain ⟨rfl, hZ, hh⟩ := hP
  have hx := Bd.exec
  have hby := Bd.bytes
  have hml : c.maxLocals = 1 := hml0
  have hown : s.vm.findClass "java/lang/Record" = some m.cls := findClass_of_methodNamed Bd.named
  have hnm := (name_of_methodNamed Bd.named Bd.method).1
  have X0 : Stand p l e ({ frames := 1, cells := 0, slots := 0, locals := 12 } : Room) s m #[(.ref a_1)] below meth c s₁ [] 0 0 := Stand.of_body Bd
  have e0 : s₁.heap = h0 := by rw [← hh, Bd.state]; rfl
  have N0 := Fr.nil n0
  have z0 : n0 ≤ h0.size := Z0
  show own_Go p.tables e below (fun t o => t.status = .running ∧ Ended t below o ∧ ∃ v L, o = .returned v ∧ own_Q2 Z a_1 h0 n0 v t.heap L ∧ FrameEnd s o t L ({ frames := 1, cells := 0, slots := 0, locals := 12 } : Room).cells ({ frames := 1, cells := 0, slots := 0, locals := 12 } : Room).slots) s₁ (entryFrame m #[(.ref a_1)] 1)
  rw [own_ef_own_rm2 m a_1]
  show own_Go _ _ _ _ s₁ (mkF m 0 #[.val (.ref a_1)] [])
  refine own_go (fun _ k => XS.aloadN X0.here hx rfl (hb hby own_d2_0) rfl rfl k) ?_
  show own_Go _ _ _ _ s₁ (mkF m 1 #[.val (.ref a_1)] [(.ref a_1)])
  obtain ⟨T1, X1, e1, st1⟩ := initO X0 hx hZ hown (hw _ (List.mem_of_getElem? (i := 11) rfl)) (hw _ (List.mem_of_getElem? (i := 12) rfl)) (hw _ (List.mem_of_getElem? (i := 13) rfl)) e0 (g := (mkF m 1 #[.val (.ref a_1)] [(.ref a_1)])) rfl (by rw [hml]; rfl) rfl (hb hby own_d2_1) (by decide) (W := 0) (by show 2 * 0 + _ ≤ _; exact Nat.le_of_eq rfl) (by decide)
  refine own_go (fun _ k => st1 _ k) ?_
  show own_Go _ _ _ _ T1 (mkF m 4 #[.val (.ref a_1)] [])
  obtain ⟨fs, hr, hrun, hended, hW, hsame⟩ := X1.leave (v := none) (fun _ => rfl)
  refine ⟨_, _, X1.returnOut hx Bd.returns (hb hby own_d2_4) hr, hrun, hended, _, _, rfl, ?_, ⟨_, rfl⟩, hW, hsame.mono (by decide) (by decide)⟩
  show own_Q2 Z a_1 h0 n0 _ T1.heap _
  rw [e1]
  exact ⟨rfl, N0, rfl⟩
theorem own_d1_0 : decode prog_38_method_1_code 0 = .ok (.aload_n 0, 1) := by decide +kernel
theorem own_d1_1 : decode prog_38_method_1_code 1 = .ok (.invokespecial 1, 3) := by decide +kernel
theorem own_d1_4 : decode prog_38_method_1_code 4 = .ok (.aload_n 0, 1) := by decide +kernel
theorem own_d1_5 : decode prog_38_method_1_code 5 = .ok (.lload_n 1, 1) := by decide +kernel
theorem own_d1_6 : decode prog_38_method_1_code 6 = .ok (.putfield 7, 3) := by decide +kernel
theorem own_d1_9 : decode prog_38_method_1_code 9 = .ok (.aload_n 0, 1) := by decide +kernel
theorem own_d1_10 : decode prog_38_method_1_code 10 = .ok (.lload_n 3, 1) := by decide +kernel
theorem own_d1_11 : decode prog_38_method_1_code 11 = .ok (.putfield 13, 3) := by decide +kernel
theorem own_d1_14 : decode prog_38_method_1_code 14 = .ok (.return_, 1) := by decide +kernel
theorem own_ef_own_rm1 (m : MethodId) (x0 : Addr) (x1 : Int64) (x2 : Int64) : entryFrame m #[(.ref x0), (.long x1), (.long x2)] 5 = mkF m 0 #[.val (.ref x0), .val (.long x1), .second, .val (.long x2), .second] [] := by first | (simp [entryFrame, mkF, argsToLocals, Value.category]; done) | rfl
def own_Q1 (Z : State) (a_1 : Addr) (q_2 : Int64) (q_3 : Int64) (w_observed_a_1 : Int64) (w_values_a_1 : Int64) (h0 : Heap) (n0 : Nat) (v : Option Value) (h : Heap) (L : List Loc) : Prop := v = none ∧ Fr n0 L ∧ Keep h0 h [a_1] ∧ Exa Z h a_1 "com/example/epsilonet/epsilonet/service/ObservationTree$Outcome" ∧ Fld Z h a_1 "com/example/epsilonet/epsilonet/service/ObservationTree$Outcome" "observed" "J" (.long q_2) ∧ Fld Z h a_1 "com/example/epsilonet/epsilonet/service/ObservationTree$Outcome" "values" "J" (.long q_3)
set_option maxRecDepth 65536 in
set_option maxHeartbeats 40000000 in
theorem own_rm1 (l : Launch) (Z : State) (a0 : Array Value) (hw : ∀ d ∈ tables_1, d.before a0 Z = true) (ws : List Jvm.Cond) (a_1 : Addr) (q_2 : Int64) (q_3 : Int64) (w_observed_a_1 : Int64) (w_values_a_1 : Int64) (h0 : Heap) (n0 : Nat) (Z0 : n0 ≤ h0.size) (pr_E_a_1 : Exa Z h0 a_1 "com/example/epsilonet/epsilonet/service/ObservationTree$Outcome") (pr_F_a_1_observed : Fld Z h0 a_1 "com/example/epsilonet/epsilonet/service/ObservationTree$Outcome" "observed" "J" (.long w_observed_a_1)) (pr_F_a_1_values : Fld Z h0 a_1 "com/example/epsilonet/epsilonet/service/ObservationTree$Outcome" "values" "J" (.long w_values_a_1)) (gw_a_1 : n0 ≤ a_1) :
    MetFree l (⟨"com/example/epsilonet/epsilonet/service/ObservationTree$Outcome", "<init>", "(JJ)V"⟩ : MethodName) (head1 (Jvm.Cond.code (⟨"com/example/epsilonet/epsilonet/service/ObservationTree$Outcome", "<init>", "(JJ)V"⟩ : MethodName) prog_38_method_1_code 5 none :: ws) ({ frames := 2, cells := 0, slots := 0, locals := 24 } : Room)) (fun a U => a = #[(.ref a_1), (.long q_2), (.long q_3)] ∧ Z.Warmed39 U.vm ∧ U.heap = h0) (fun _ _ _ _ _ => True) (fun _ U o U' => ∃ v L, o = .returned v ∧ own_Q1 Z a_1 q_2 q_3 w_observed_a_1 w_values_a_1 h0 n0 v U'.heap L ∧ FrameEnd U o U' L ({ frames := 2, cells := 0, slots := 0, locals := 24 } : Room).cells ({ frames := 2, cells := 0, slots := 0, locals := 24 } : Room).slots) := by
  refine MetFree.of_bodySF (plainFor_of_name own_pn1) hisR ?_
  intro p e s m args below meth c s₁ Bd hml0 hP hK
  obtain ⟨rfl, hZ, hh⟩ := hP
  have hx := Bd.exec
  have hby := Bd.bytes
  have hml : c.maxLocals = 5 := hml0
  have hown : s.vm.findClass "com/example/epsilonet/epsilonet/service/ObservationTree$Outcome" = some m.cls := findClass_of_methodNamed Bd.named
  have hnm := (name_of_methodNamed Bd.named Bd.method).1
  have X0 : Stand p l e ({ frames := 2, cells := 0, slots := 0, locals := 24 } : Room) s m #[(.ref a_1), (.long q_2), (.long q_3)] below meth c s₁ [] 0 0 := Stand.of_body Bd
  have e0 : s₁.heap = h0 := by rw [← hh, Bd.state]; rfl
  have N0 := Fr.nil n0
  have z0 : n0 ≤ h0.size := Z0
  have z1 := own_lt pr_E_a_1.lt
  have z2 := own_lt pr_F_a_1_observed.lt
  have z3 := own_lt pr_F_a_1_values.lt
  have K0 : Keep h0 h0 [a_1] := Keep.refl h0 _
  show own_Go p.tables e below (fun t o => t.status = .running ∧ Ended t below o ∧ ∃ v L, o = .returned v ∧ own_Q1 Z a_1 q_2 q_3 w_observed_a_1 w_values_a_1 h0 n0 v t.heap L ∧ FrameEnd s o t L ({ frames := 2, cells := 0, slots := 0, locals := 24 } : Room).cells ({ frames := 2, cells := 0, slots := 0, locals := 24 } : Room).slots) s₁ (entryFrame m #[(.ref a_1), (.long q_2), (.long q_3)] 5)
  rw [own_ef_own_rm1 m a_1 q_2 q_3]
  show own_Go _ _ _ _ s₁ (mkF m 0 #[.val (.ref a_1), .val (.long q_2), .second, .val (.long q_3), .second] [])
  refine own_go (fun _ k => XS.aloadN X0.here hx rfl (hb hby own_d1_0) rfl rfl k) ?_
  show own_Go _ _ _ _ s₁ (mkF m 1 #[.val (.ref a_1), .val (.long q_2), .second, .val (.long q_3), .second] [(.ref a_1)])
  obtain ⟨_, _, ⟨T4, L4, k4, n4⟩, -, X4, ⟨Lc4, hQ4, l4, y4, z4⟩, st4⟩ := X0.specialBack hx (y := (⟨"java/lang/Record", "<init>", "()V"⟩ : MethodName)) rfl hown (mvT hZ (hw _ (List.mem_of_getElem? (i := 6) rfl))) (mvT hZ (hw _ (List.mem_of_getElem? (i := 7) rfl))) (mvT hZ (hw _ (List.mem_of_getElem? (i := 10) rfl))) (by decide) (backOf (W := 0) (own_rm2 l Z a0 hw [] a_1  h0 n0 (by omega) ) hZ (hw _ (List.mem_of_getElem? (i := 10) rfl)) (hw _ (List.mem_of_getElem? (i := 9) rfl)) (by decide) (by decide)) (g := (mkF m 1 #[.val (.ref a_1), .val (.long q_2), .second, .val (.long q_3), .second] [(.ref a_1)])) rfl (by rw [hml]; rfl) (Steps.refl _) (a := a_1) (argsL := []) (rest := []) (lenOf own_pd0 rfl) rfl (by show 2 * 0 + _ ≤ _; exact Nat.le_of_eq rfl) (hb hby own_d1_1) (fun _ _ => ⟨rfl, e0, (by decide : 0 + 0 ≤ _), (by decide : 0 + 0 ≤ _)⟩)
  dsimp only [Pt.U, Pt.locs, Pt.cells, Pt.slots] at X4 l4 y4 z4 st4 hQ4
  have y4 : k4 = 0 := y4
  have z4 : n4 = 0 := z4
  obtain ⟨rfl, N4q, e4⟩ := hQ4
  have N4 : Fr n0 L4 := by rw [l4]; exact Fr.app N0 N4q
  refine own_go (fun _ k => st4.trans k) ?_
  show own_Go _ _ _ _ T4 (mkF m 4 #[.val (.ref a_1), .val (.long q_2), .second, .val (.long q_3), .second] [])
  refine own_go (fun _ k => XS.aloadN X4.here hx rfl (hb hby own_d1_4) rfl rfl k) ?_
  show own_Go _ _ _ _ T4 (mkF m 5 #[.val (.ref a_1), .val (.long q_2), .second, .val (.long q_3), .second] [(.ref a_1)])
  refine own_go (fun _ k => XS.lloadN X4.here hx rfl (hb hby own_d1_5) rfl k) ?_
  show own_Go _ _ _ _ T4 (mkF m 6 #[.val (.ref a_1), .val (.long q_2), .second, .val (.long q_3), .second] [(.long q_2), (.ref a_1)])
  obtain ⟨T5, h5, X5, e5, W5, st5⟩ := putF X4 hx hZ hown (host := "") (Or.inl (hw _ (List.mem_of_getElem? (i := 14) rfl))) Via.refl e4 pr_F_a_1_observed pr_E_a_1 (Or.inr ⟨(hw _ (List.mem_of_getElem? (i := 15) rfl)), rfl, hnm⟩) (hw _ (List.mem_of_getElem? (i := 1) rfl)) (ty := .long) (by decide) rfl rfl (g := (mkF m 6 #[.val (.ref a_1), .val (.long q_2), .second, .val (.long q_3), .second] [(.long q_2), (.ref a_1)])) rfl rfl (hb hby own_d1_6)
  have z6 := W5.size
  have K5 : Keep h0 h5 [a_1] := K0.wr W5 (Or.inl (List.mem_of_getElem? (i := 0) rfl))
  have N5 := Fr.snoc X5 N4 (by omega : n0 ≤ a_1)
  have Fw5 : Fld Z h5 a_1 "com/example/epsilonet/epsilonet/service/ObservationTree$Outcome" "observed" "J" (.long q_2) := Fld.same W5 pr_F_a_1_observed
  refine own_go (fun _ k => st5 _ k) ?_
  show own_Go _ _ _ _ T5 (mkF m 9 #[.val (.ref a_1), .val (.long q_2), .second, .val (.long q_3), .second] [])
  refine own_go (fun _ k => XS.aloadN X5.here hx rfl (hb hby own_d1_9) rfl rfl k) ?_
  show own_Go _ _ _ _ T5 (mkF m 10 #[.val (.ref a_1), .val (.long q_2), .second, .val (.long q_3), .second] [(.ref a_1)])
  refine own_go (fun _ k => XS.lloadN X5.here hx rfl (hb hby own_d1_10) rfl k) ?_
  show own_Go _ _ _ _ T5 (mkF m 11 #[.val (.ref a_1), .val (.long q_2), .second, .val (.long q_3), .second] [(.long q_3), (.ref a_1)])
  have f7 : Exa Z h5 a_1 "com/example/epsilonet/epsilonet/service/ObservationTree$Outcome" := (pr_E_a_1.wr W5)
  have f8 : Fld Z h5 a_1 "com/example/epsilonet/epsilonet/service/ObservationTree$Outcome" "values" "J" (.long w_values_a_1) := (pr_F_a_1_values.other W5 (Or.inr (slot_ne (Or.inr (hw _ (List.mem_of_getElem? (i := 17) rfl))) (Or.inr (hw _ (List.mem_of_getElem? (i := 15) rfl))) (by decide) (t := .long) (t' := .long) (by decide) (by decide))))
  obtain ⟨T9, h9, X9, e9, W9, st9⟩ := putF X5 hx hZ hown (host := "") (Or.inl (hw _ (List.mem_of_getElem? (i := 16) rfl))) Via.refl e5 f8 f7 (Or.inr ⟨(hw _ (List.mem_of_getElem? (i := 17) rfl)), rfl, hnm⟩) (hw _ (List.mem_of_getElem? (i := 1) rfl)) (ty := .long) (by decide) rfl rfl (g := (mkF m 11 #[.val (.ref a_1), .val (.long q_2), .second, .val (.long q_3), .second] [(.long q_3), (.ref a_1)])) rfl rfl (hb hby own_d1_11)
  have z10 := W9.size
  have K9 : Keep h0 h9 [a_1] := K5.wr W9 (Or.inl (List.mem_of_getElem? (i := 0) rfl))
  have N9 := Fr.snoc X9 N5 (by omega : n0 ≤ a_1)
  have Fw9 : Fld Z h9 a_1 "com/example/epsilonet/epsilonet/service/ObservationTree$Outcome" "values" "J" (.long q_3) := Fld.same W9 f8
  refine own_go (fun _ k => st9 _ k) ?_
  show own_Go _ _ _ _ T9 (mkF m 14 #[.val (.ref a_1), .val (.long q_2), .second, .val (.long q_3), .second] [])
  obtain ⟨fs, hr, hrun, hended, hW, hsame⟩ := X9.leave (v := none) (fun _ => rfl)
  refine ⟨_, _, X9.returnOut hx Bd.returns (hb hby own_d1_14) hr, hrun, hended, _, _, rfl, ?_, ⟨_, rfl⟩, hW, hsame.mono (by rw [y4]; decide) (by rw [z4]; decide)⟩
  show own_Q1 Z a_1 q_2 q_3 w_observed_a_1 w_values_a_1 h0 n0 _ T9.heap _
  rw [e9]
  have f12 : Exa Z h9 a_1 "com/example/epsilonet/epsilonet/service/ObservationTree$Outcome" := (f7.wr W9)
  have f13 : Fld Z h9 a_1 "com/example/epsilonet/epsilonet/service/ObservationTree$Outcome" "observed" "J" (.long q_2) := (Fw5.other W9 (Or.inr (slot_ne (Or.inr (hw _ (List.mem_of_getElem? (i := 15) rfl))) (Or.inr (hw _ (List.mem_of_getElem? (i := 17) rfl))) (by decide) (t := .long) (t' := .long) (by decide) (by decide))))
  exact ⟨rfl, N9, K9, f12, f13, Fw9⟩
theorem own_d4_0 : decode prog_38_method_3_code 0 = .ok (.aload_n 1, 1) := by decide +kernel
theorem own_d4_1 : decode prog_38_method_3_code 1 = .ok (.instanceof 8, 3) := by decide +kernel
theorem own_d4_4 : decode prog_38_method_3_code 4 = .ok (.ifCond .eq 36, 3) := by decide +kernel
theorem own_d4_7 : decode prog_38_method_3_code 7 = .ok (.aload_n 1, 1) := by decide +kernel
theorem own_d4_8 : decode prog_38_method_3_code 8 = .ok (.checkcast 8, 3) := by decide +kernel
theorem own_d4_11 : decode prog_38_method_3_code 11 = .ok (.astore_n 2, 1) := by decide +kernel
theorem own_d4_12 : decode prog_38_method_3_code 12 = .ok (.aload_n 0, 1) := by decide +kernel
theorem own_d4_13 : decode prog_38_method_3_code 13 = .ok (.getfield 7, 3) := by decide +kernel
theorem own_d4_16 : decode prog_38_method_3_code 16 = .ok (.aload_n 2, 1) := by decide +kernel
theorem own_d4_17 : decode prog_38_method_3_code 17 = .ok (.getfield 7, 3) := by decide +kernel
theorem own_d4_20 : decode prog_38_method_3_code 20 = .ok (.lcmp, 1) := by decide +kernel
theorem own_d4_21 : decode prog_38_method_3_code 21 = .ok (.ifCond .ne 19, 3) := by decide +kernel
theorem own_d4_24 : decode prog_38_method_3_code 24 = .ok (.aload_n 0, 1) := by decide +kernel
theorem own_d4_25 : decode prog_38_method_3_code 25 = .ok (.getfield 13, 3) := by decide +kernel
theorem own_d4_28 : decode prog_38_method_3_code 28 = .ok (.aload_n 2, 1) := by decide +kernel
theorem own_d4_29 : decode prog_38_method_3_code 29 = .ok (.getfield 13, 3) := by decide +kernel
theorem own_d4_32 : decode prog_38_method_3_code 32 = .ok (.lcmp, 1) := by decide +kernel
theorem own_d4_33 : decode prog_38_method_3_code 33 = .ok (.ifCond .ne 7, 3) := by decide +kernel
theorem own_d4_36 : decode prog_38_method_3_code 36 = .ok (.iconst 1, 1) := by decide +kernel
theorem own_d4_37 : decode prog_38_method_3_code 37 = .ok (.goto 4, 3) := by decide +kernel
theorem own_d4_40 : decode prog_38_method_3_code 40 = .ok (.iconst 0, 1) := by decide +kernel
theorem own_d4_41 : decode prog_38_method_3_code 41 = .ok (.ireturn, 1) := by decide +kernel
theorem own_ef_own_rm4 (m : MethodId) (x0 : Addr) (x1 : Addr) : entryFrame m #[(.ref x0), (.ref x1)] 3 = mkF m 0 #[.val (.ref x0), .val (.ref x1), .unset] [] := by first | (simp [entryFrame, mkF, argsToLocals, Value.category]; done) | rfl
def own_rm4_ret (w_observed_a_1 : Int64) (w_observed_a_2 : Int64) (w_values_a_1 : Int64) (w_values_a_2 : Int64) : Int32 := if w_observed_a_1 = w_observed_a_2 then (if w_values_a_1 = w_values_a_2 then (1 : Int32) else (0 : Int32)) else (0 : Int32)
def own_Q4 (Z : State) (a_1 : Addr) (a_2 : Addr) (w_observed_a_1 : Int64) (w_observed_a_2 : Int64) (w_values_a_1 : Int64) (w_values_a_2 : Int64) (h0 : Heap) (n0 : Nat) (v : Option Value) (h : Heap) (L : List Loc) : Prop := ∃ (r_ : Int32), v = some (.int r_) ∧ Fr n0 L ∧ r_ = (own_rm4_ret w_observed_a_1 w_observed_a_2 w_values_a_1 w_values_a_2) ∧ h = h0
set_option maxRecDepth 65536 in
set_option maxHeartbeats 40000000 in
theorem own_rm4 (l : Launch) (Z : State) (a0 : Array Value) (hw : ∀ d ∈ tables_1, d.before a0 Z = true) (ws : List Jvm.Cond) (a_1 : Addr) (a_2 : Addr) (w_observed_a_1 : Int64) (w_observed_a_2 : Int64) (w_values_a_1 : Int64) (w_values_a_2 : Int64) (h0 : Heap) (n0 : Nat) (Z0 : n0 ≤ h0.size) (pr_E_a_2 : Exa Z h0 a_2 "com/example/epsilonet/epsilonet/service/ObservationTree$Outcome") (pr_F_a_1_observed : Fld Z h0 a_1 "com/example/epsilonet/epsilonet/service/ObservationTree$Outcome" "observed" "J" (.long w_observed_a_1)) (pr_F_a_2_observed : Fld Z h0 a_2 "com/example/epsilonet/epsilonet/service/ObservationTree$Outcome" "observed" "J" (.long w_observed_a_2)) (pr_F_a_1_values : Fld Z h0 a_1 "com/example/epsilonet/epsilonet/service/ObservationTree$Outcome" "values" "J" (.long w_values_a_1)) (pr_F_a_2_values : Fld Z h0 a_2 "com/example/epsilonet/epsilonet/service/ObservationTree$Outcome" "values" "J" (.long w_values_a_2)) :
    MetFree l (⟨"com/example/epsilonet/epsilonet/service/ObservationTree$Outcome", "equals", "(Ljava/lang/Object;)Z"⟩ : MethodName) (head1 (Jvm.Cond.code (⟨"com/example/epsilonet/epsilonet/service/ObservationTree$Outcome", "equals", "(Ljava/lang/Object;)Z"⟩ : MethodName) prog_38_method_3_code 3 (some .boolean) :: ws) ({ frames := 0, cells := 0, slots := 0, locals := 0 } : Room)) (fun a U => a = #[(.ref a_1), (.ref a_2)] ∧ Z.Warmed39 U.vm ∧ U.heap = h0) (fun _ _ _ _ _ => True) (fun _ U o U' => ∃ v L, o = .returned v ∧ own_Q4 Z a_1 a_2 w_observed_a_1 w_observed_a_2 w_values_a_1 w_values_a_2 h0 n0 v U'.heap L ∧ FrameEnd U o U' L ({ frames := 0, cells := 0, slots := 0, locals := 0 } : Room).cells ({ frames := 0, cells := 0, slots := 0, locals := 0 } : Room).slots) := by
  refine MetFree.of_bodySF (plainFor_of_name own_pn1) hisR ?_
  intro p e s m args below meth c s₁ Bd hml0 hP hK
  obtain ⟨rfl, hZ, hh⟩ := hP
  have hx := Bd.exec
  have hby := Bd.bytes
  have hml : c.maxLocals = 3 := hml0
  have hown : s.vm.findClass "com/example/epsilonet/epsilonet/service/ObservationTree$Outcome" = some m.cls := findClass_of_methodNamed Bd.named
  have hnm := (name_of_methodNamed Bd.named Bd.method).1
  have X0 : Stand p l e ({ frames := 0, cells := 0, slots := 0, locals := 0 } : Room) s m #[(.ref a_1), (.ref a_2)] below meth c s₁ [] 0 0 := Stand.of_body Bd
  have e0 : s₁.heap = h0 := by rw [← hh, Bd.state]; rfl
  have N0 := Fr.nil n0
  have z0 : n0 ≤ h0.size := Z0
  have z1 := own_lt pr_E_a_2.lt
  have z2 := own_lt pr_F_a_1_observed.lt
  have z3 := own_lt pr_F_a_2_observed.lt
  have z4 := own_lt pr_F_a_1_values.lt
  have z5 := own_lt pr_F_a_2_values.lt
  show own_Go p.tables e below (fun t o => t.status = .running ∧ Ended t below o ∧ ∃ v L, o = .returned v ∧ own_Q4 Z a_1 a_2 w_observed_a_1 w_observed_a_2 w_values_a_1 w_values_a_2 h0 n0 v t.heap L ∧ FrameEnd s o t L ({ frames := 0, cells := 0, slots := 0, locals := 0 } : Room).cells ({ frames := 0, cells := 0, slots := 0, locals := 0 } : Room).slots) s₁ (entryFrame m #[(.ref a_1), (.ref a_2)] 3)
  rw [own_ef_own_rm4 m a_1 a_2]
  show own_Go _ _ _ _ s₁ (mkF m 0 #[.val (.ref a_1), .val (.ref a_2), .unset] [])
  refine own_go (fun _ k => XS.aloadN X0.here hx rfl (hb hby own_d4_0) rfl rfl k) ?_
  show own_Go _ _ _ _ s₁ (mkF m 1 #[.val (.ref a_1), .val (.ref a_2), .unset] [(.ref a_2)])
  obtain ⟨T6, X6, e6, st6⟩ := instY X0 hx hZ hown (hw _ (List.mem_of_getElem? (i := 23) rfl)) e0 (Ins.self pr_E_a_2) (g := (mkF m 1 #[.val (.ref a_1), .val (.ref a_2), .unset] [(.ref a_2)])) rfl rfl (hb hby own_d4_1)
  refine own_go (fun _ k => st6 _ k) ?_
  show own_Go _ _ _ _ T6 (mkF m 4 #[.val (.ref a_1), .val (.ref a_2), .unset] [(.int (1 : Int32))])
  have hc7 : ¬ ((1 : Int32) = 0) := by decide
  refine own_go (fun _ k => XS.ifNo X6.here hx rfl (hb hby own_d4_4) rfl (Jvm.Free.XT.i0_eq_f hc7) k) ?_
  show own_Go _ _ _ _ T6 (mkF m 7 #[.val (.ref a_1), .val (.ref a_2), .unset] [])
  refine own_go (fun _ k => XS.aloadN X6.here hx rfl (hb hby own_d4_7) rfl rfl k) ?_
  show own_Go _ _ _ _ T6 (mkF m 8 #[.val (.ref a_1), .val (.ref a_2), .unset] [(.ref a_2)])
  obtain ⟨T8, X8, e8, st8⟩ := castY X6 hx hZ hown (hw _ (List.mem_of_getElem? (i := 23) rfl)) e6 (Ins.self pr_E_a_2) (g := (mkF m 8 #[.val (.ref a_1), .val (.ref a_2), .unset] [(.ref a_2)])) rfl rfl (hb hby own_d4_8)
  refine own_go (fun _ k => st8 _ k) ?_
  show own_Go _ _ _ _ T8 (mkF m 11 #[.val (.ref a_1), .val (.ref a_2), .unset] [(.ref a_2)])
  refine own_go (fun _ k => XS.astoreN X8.here hx rfl (hb hby own_d4_11) rfl rfl (l' := #[.val (.ref a_1), .val (.ref a_2), .val (.ref a_2)]) rfl k) ?_
  show own_Go _ _ _ _ T8 (mkF m 12 #[.val (.ref a_1), .val (.ref a_2), .val (.ref a_2)] [])
  refine own_go (fun _ k => XS.aloadN X8.here hx rfl (hb hby own_d4_12) rfl rfl k) ?_
  show own_Go _ _ _ _ T8 (mkF m 13 #[.val (.ref a_1), .val (.ref a_2), .val (.ref a_2)] [(.ref a_1)])
  obtain ⟨T9, X9, e9, st9⟩ := getF X8 hx hZ hown (host := "") (Or.inl (hw _ (List.mem_of_getElem? (i := 14) rfl))) Via.refl e8 pr_F_a_1_observed (g := (mkF m 13 #[.val (.ref a_1), .val (.ref a_2), .val (.ref a_2)] [(.ref a_1)])) rfl rfl (hb hby own_d4_13)
  refine own_go (fun _ k => st9 _ k) ?_
  show own_Go _ _ _ _ T9 (mkF m 16 #[.val (.ref a_1), .val (.ref a_2), .val (.ref a_2)] [(.long w_observed_a_1)])
  refine own_go (fun _ k => XS.aloadN X9.here hx rfl (hb hby own_d4_16) rfl rfl k) ?_
  show own_Go _ _ _ _ T9 (mkF m 17 #[.val (.ref a_1), .val (.ref a_2), .val (.ref a_2)] [(.ref a_2), (.long w_observed_a_1)])
  obtain ⟨T10, X10, e10, st10⟩ := getF X9 hx hZ hown (host := "") (Or.inl (hw _ (List.mem_of_getElem? (i := 14) rfl))) Via.refl e9 pr_F_a_2_observed (g := (mkF m 17 #[.val (.ref a_1), .val (.ref a_2), .val (.ref a_2)] [(.ref a_2), (.long w_observed_a_1)])) rfl rfl (hb hby own_d4_17)
  refine own_go (fun _ k => st10 _ k) ?_
  show own_Go _ _ _ _ T10 (mkF m 20 #[.val (.ref a_1), .val (.ref a_2), .val (.ref a_2)] [(.long w_observed_a_2), (.long w_observed_a_1)])
  refine own_go (fun _ k => XS.lcmp X10.here hx rfl (hb hby own_d4_20) rfl k) ?_
  show own_Go _ _ _ _ T10 (mkF m 21 #[.val (.ref a_1), .val (.ref a_2), .val (.ref a_2)] [(.int (lcmpW w_observed_a_1 w_observed_a_2))])
  by_cases hc11 : w_observed_a_1 = w_observed_a_2
  · refine own_go (fun _ k => XS.ifNo X10.here hx rfl (hb hby own_d4_21) rfl (Jvm.Free.XT.ll_ne_f hc11) k) ?_
    show own_Go _ _ _ _ T10 (mkF m 24 #[.val (.ref a_1), .val (.ref a_2), .val (.ref a_2)] [])
    refine own_go (fun _ k => XS.aloadN X10.here hx rfl (hb hby own_d4_24) rfl rfl k) ?_
    show own_Go _ _ _ _ T10 (mkF m 25 #[.val (.ref a_1), .val (.ref a_2), .val (.ref a_2)] [(.ref a_1)])
    obtain ⟨T12, X12, e12, st12⟩ := getF X10 hx hZ hown (host := "") (Or.inl (hw _ (List.mem_of_getElem? (i := 16) rfl))) Via.refl e10 pr_F_a_1_values (g := (mkF m 25 #[.val (.ref a_1), .val (.ref a_2), .val (.ref a_2)] [(.ref a_1)])) rfl rfl (hb hby own_d4_25)
    refine own_go (fun _ k => st12 _ k) ?_
    show own_Go _ _ _ _ T12 (mkF m 28 #[.val (.ref a_1), .val (.ref a_2), .val (.ref a_2)] [(.long w_values_a_1)])
    refine own_go (fun _ k => XS.aloadN X12.here hx rfl (hb hby own_d4_28) rfl rfl k) ?_
    show own_Go _ _ _ _ T12 (mkF m 29 #[.val (.ref a_1), .val (.ref a_2), .val (.ref a_2)] [(.ref a_2), (.long w_values_a_1)])
    obtain ⟨T13, X13, e13, st13⟩ := getF X12 hx hZ hown (host := "") (Or.inl (hw _ (List.mem_of_getElem? (i := 16) rfl))) Via.refl e12 pr_F_a_2_values (g := (mkF m 29 #[.val (.ref a_1), .val (.ref a_2), .val (.ref a_2)] [(.ref a_2), (.long w_values_a_1)])) rfl rfl (hb hby own_d4_29)
    refine own_go (fun _ k => st13 _ k) ?_
    show own_Go _ _ _ _ T13 (mkF m 32 #[.val (.ref a_1), .val (.ref a_2), .val (.ref a_2)] [(.long w_values_a_2), (.long w_values_a_1)])
    refine own_go (fun _ k => XS.lcmp X13.here hx rfl (hb hby own_d4_32) rfl k) ?_
    show own_Go _ _ _ _ T13 (mkF m 33 #[.val (.ref a_1), .val (.ref a_2), .val (.ref a_2)] [(.int (lcmpW w_values_a_1 w_values_a_2))])
    by_cases hc14 : w_values_a_1 = w_values_a_2
    · refine own_go (fun _ k => XS.ifNo X13.here hx rfl (hb hby own_d4_33) rfl (Jvm.Free.XT.ll_ne_f hc14) k) ?_
      show own_Go _ _ _ _ T13 (mkF m 36 #[.val (.ref a_1), .val (.ref a_2), .val (.ref a_2)] [])
      refine own_go (fun _ k => XS.iconst X13.here hx rfl (hb hby own_d4_36) k) ?_
      show own_Go _ _ _ _ T13 (mkF m 37 #[.val (.ref a_1), .val (.ref a_2), .val (.ref a_2)] [(.int (1 : Int32))])
      refine own_go (fun _ k => XS.goto X13.here hx rfl (pc0 := 37) (pc' := 41) rfl (hb hby own_d4_37) (by decide) (by decide) k) ?_
      show own_Go _ _ _ _ T13 (mkF m 41 #[.val (.ref a_1), .val (.ref a_2), .val (.ref a_2)] [(.int (1 : Int32))])
      obtain ⟨fs, hr, hrun, hended, hW, hsame⟩ := X13.leave (v := some (.int (1 : Int32))) (fun h => by rw [Bd.returns] at h; cases h)
      refine ⟨_, _, retOut X13 hx Bd.returns rfl (Or.inl ⟨rfl, Or.inr (Or.inl rfl), _, rfl⟩) (hb hby own_d4_41) hr, hrun, hended, _, _, rfl, ?_, ⟨_, rfl⟩, hW, hsame.mono (by decide) (by decide)⟩
      show own_Q4 Z a_1 a_2 w_observed_a_1 w_observed_a_2 w_values_a_1 w_values_a_2 h0 n0 _ T13.heap _
      rw [e13]
      exact ⟨_, rfl, N0, (by first | rfl | simp only [own_rm4_ret, if_pos hc11, if_pos hc14]), rfl⟩
    · refine own_go (fun _ k => XS.ifYes X13.here hx rfl (pc0 := 33) (pc' := 40) rfl (hb hby own_d4_33) rfl (Jvm.Free.XT.ll_ne_t hc14) (by decide) (by decide) k) ?_
      show own_Go _ _ _ _ T13 (mkF m 40 #[.val (.ref a_1), .val (.ref a_2), .val (.ref a_2)] [])
      refine own_go (fun _ k => XS.iconst X13.here hx rfl (hb hby own_d4_40) k) ?_
      show own_Go _ _ _ _ T13 (mkF m 41 #[.val (.ref a_1), .val (.ref a_2), .val (.ref a_2)] [(.int (0 : Int32))])
      obtain ⟨fs, hr, hrun, hended, hW, hsame⟩ := X13.leave (v := some (.int (0 : Int32))) (fun h => by rw [Bd.returns] at h; cases h)
      refine ⟨_, _, retOut X13 hx Bd.returns rfl (Or.inl ⟨rfl, Or.inr (Or.inl rfl), _, rfl⟩) (hb hby own_d4_41) hr, hrun, hended, _, _, rfl, ?_, ⟨_, rfl⟩, hW, hsame.mono (by decide) (by decide)⟩
      show own_Q4 Z a_1 a_2 w_observed_a_1 w_observed_a_2 w_values_a_1 w_values_a_2 h0 n0 _ T13.heap _
      rw [e13]
      exact ⟨_, rfl, N0, (by first | rfl | simp only [own_rm4_ret, if_pos hc11, if_neg hc14]), rfl⟩
  · refine own_go (fun _ k => XS.ifYes X10.here hx rfl (pc0 := 21) (pc' := 40) rfl (hb hby own_d4_21) rfl (Jvm.Free.XT.ll_ne_t hc11) (by decide) (by decide) k) ?_
    show own_Go _ _ _ _ T10 (mkF m 40 #[.val (.ref a_1), .val (.ref a_2), .val (.ref a_2)] [])
    refine own_go (fun _ k => XS.iconst X10.here hx rfl (hb hby own_d4_40) k) ?_
    show own_Go _ _ _ _ T10 (mkF m 41 #[.val (.ref a_1), .val (.ref a_2), .val (.ref a_2)] [(.int (0 : Int32))])
    obtain ⟨fs, hr, hrun, hended, hW, hsame⟩ := X10.leave (v := some (.int (0 : Int32))) (fun h => by rw [Bd.returns] at h; cases h)
    refine ⟨_, _, retOut X10 hx Bd.returns rfl (Or.inl ⟨rfl, Or.inr (Or.inl rfl), _, rfl⟩) (hb hby own_d4_41) hr, hrun, hended, _, _, rfl, ?_, ⟨_, rfl⟩, hW, hsame.mono (by decide) (by decide)⟩
    show own_Q4 Z a_1 a_2 w_observed_a_1 w_observed_a_2 w_values_a_1 w_values_a_2 h0 n0 _ T10.heap _
    rw [e10]
    exact ⟨_, rfl, N0, (by first | rfl | simp only [own_rm4_ret, if_neg hc11]), rfl⟩
theorem own_ef_own_rm4n (m : MethodId) (x0 : Addr) : entryFrame m #[(.ref x0), .null] 3 = mkF m 0 #[.val (.ref x0), .val .null, .unset] [] := by first | (simp [entryFrame, mkF, argsToLocals, Value.category]; done) | rfl
def own_Q4n (Z : State) (a_1 : Addr) (h0 : Heap) (n0 : Nat) (v : Option Value) (h : Heap) (L : List Loc) : Prop := v = some (.int (0 : Int32)) ∧ Fr n0 L ∧ h = h0
set_option maxRecDepth 65536 in
set_option maxHeartbeats 40000000 in
theorem own_rm4n (l : Launch) (Z : State) (a0 : Array Value) (hw : ∀ d ∈ tables_1, d.before a0 Z = true) (ws : List Jvm.Cond) (a_1 : Addr) (h0 : Heap) (n0 : Nat) (Z0 : n0 ≤ h0.size) :
    MetFree l (⟨"com/example/epsilonet/epsilonet/service/ObservationTree$Outcome", "equals", "(Ljava/lang/Object;)Z"⟩ : MethodName) (head1 (Jvm.Cond.code (⟨"com/example/epsilonet/epsilonet/service/ObservationTree$Outcome", "equals", "(Ljava/lang/Object;)Z"⟩ : MethodName) prog_38_method_3_code 3 (some .boolean) :: ws) ({ frames := 0, cells := 0, slots := 0, locals := 0 } : Room)) (fun a U => a = #[(.ref a_1), .null] ∧ Z.Warmed39 U.vm ∧ U.heap = h0) (fun _ _ _ _ _ => True) (fun _ U o U' => ∃ v L, o = .returned v ∧ own_Q4n Z a_1 h0 n0 v U'.heap L ∧ FrameEnd U o U' L ({ frames := 0, cells := 0, slots := 0, locals := 0 } : Room).cells ({ frames := 0, cells := 0, slots := 0, locals := 0 } : Room).slots) := by
  refine MetFree.of_bodySF (plainFor_of_name own_pn1) hisR ?_
  intro p e s m args below meth c s₁ Bd hml0 hP hK
  obtain ⟨rfl, hZ, hh⟩ := hP
  have hx := Bd.exec
  have hby := Bd.bytes
  have hml : c.maxLocals = 3 := hml0
  have hown : s.vm.findClass "com/example/epsilonet/epsilonet/service/ObservationTree$Outcome" = some m.cls := findClass_of_methodNamed Bd.named
  have hnm := (name_of_methodNamed Bd.named Bd.method).1
  have X0 : Stand p l e ({ frames := 0, cells := 0, slots := 0, locals := 0 } : Room) s m #[(.ref a_1), .null] below meth c s₁ [] 0 0 := Stand.of_body Bd
  have e0 : s₁.heap = h0 := by rw [← hh, Bd.state]; rfl
  have N0 := Fr.nil n0
  have z0 : n0 ≤ h0.size := Z0
  show own_Go p.tables e below (fun t o => t.status = .running ∧ Ended t below o ∧ ∃ v L, o = .returned v ∧ own_Q4n Z a_1 h0 n0 v t.heap L ∧ FrameEnd s o t L ({ frames := 0, cells := 0, slots := 0, locals := 0 } : Room).cells ({ frames := 0, cells := 0, slots := 0, locals := 0 } : Room).slots) s₁ (entryFrame m #[(.ref a_1), .null] 3)
  rw [own_ef_own_rm4n m a_1]
  show own_Go _ _ _ _ s₁ (mkF m 0 #[.val (.ref a_1), .val .null, .unset] [])
  refine own_go (fun _ k => XS.aloadN X0.here hx rfl (hb hby own_d4_0) rfl rfl k) ?_
  show own_Go _ _ _ _ s₁ (mkF m 1 #[.val (.ref a_1), .val .null, .unset] [.null])
  refine own_go (fun _ k => X0.instanceofNull hx (g := (mkF m 1 #[.val (.ref a_1), .val .null, .unset] [.null])) rfl rfl (hb hby own_d4_1) _ k) ?_
  show own_Go _ _ _ _ s₁ (mkF m 4 #[.val (.ref a_1), .val .null, .unset] [(.int (0 : Int32))])
  have hc1 : (0 : Int32) = 0 := by decide
  refine own_go (fun _ k => XS.ifYes X0.here hx rfl (pc0 := 4) (pc' := 40) rfl (hb hby own_d4_4) rfl (Jvm.Free.XT.i0_eq_t hc1) (by decide) (by decide) k) ?_
  show own_Go _ _ _ _ s₁ (mkF m 40 #[.val (.ref a_1), .val .null, .unset] [])
  refine own_go (fun _ k => XS.iconst X0.here hx rfl (hb hby own_d4_40) k) ?_
  show own_Go _ _ _ _ s₁ (mkF m 41 #[.val (.ref a_1), .val .null, .unset] [(.int (0 : Int32))])
  obtain ⟨fs, hr, hrun, hended, hW, hsame⟩ := X0.leave (v := some (.int (0 : Int32))) (fun h => by rw [Bd.returns] at h; cases h)
  refine ⟨_, _, retOut X0 hx Bd.returns rfl (Or.inl ⟨rfl, Or.inr (Or.inl rfl), _, rfl⟩) (hb hby own_d4_41) hr, hrun, hended, _, _, rfl, ?_, ⟨_, rfl⟩, hW, hsame.mono (by decide) (by decide)⟩
  show own_Q4n Z a_1 h0 n0 _ s₁.heap _
  rw [e0]
  exact ⟨rfl, N0, rfl⟩
theorem own_ef_own_rm4l (m : MethodId) (x0 : Addr) (x1 : Addr) : entryFrame m #[(.ref x0), (.ref x1)] 3 = mkF m 0 #[.val (.ref x0), .val (.ref x1), .unset] [] := by first | (simp [entryFrame, mkF, argsToLocals, Value.category]; done) | rfl
def own_Q4l (Z : State) (a_1 : Addr) (a_2 : Addr) (h0 : Heap) (n0 : Nat) (v : Option Value) (h : Heap) (L : List Loc) : Prop := v = some (.int (0 : Int32)) ∧ Fr n0 L ∧ h = h0
set_option maxRecDepth 65536 in
set_option maxHeartbeats 40000000 in
theorem own_rm4l (l : Launch) (Z : State) (a0 : Array Value) (hw : ∀ d ∈ tables_1, d.before a0 Z = true) (ws : List Jvm.Cond) (a_1 : Addr) (a_2 : Addr) (h0 : Heap) (n0 : Nat) (Z0 : n0 ≤ h0.size) (pr_E_a_2 : Exa Z h0 a_2 "java/lang/Long") :
    MetFree l (⟨"com/example/epsilonet/epsilonet/service/ObservationTree$Outcome", "equals", "(Ljava/lang/Object;)Z"⟩ : MethodName) (head1 (Jvm.Cond.code (⟨"com/example/epsilonet/epsilonet/service/ObservationTree$Outcome", "equals", "(Ljava/lang/Object;)Z"⟩ : MethodName) prog_38_method_3_code 3 (some .boolean) :: ws) ({ frames := 0, cells := 0, slots := 0, locals := 0 } : Room)) (fun a U => a = #[(.ref a_1), (.ref a_2)] ∧ Z.Warmed39 U.vm ∧ U.heap = h0) (fun _ _ _ _ _ => True) (fun _ U o U' => ∃ v L, o = .returned v ∧ own_Q4l Z a_1 a_2 h0 n0 v U'.heap L ∧ FrameEnd U o U' L ({ frames := 0, cells := 0, slots := 0, locals := 0 } : Room).cells ({ frames := 0, cells := 0, slots := 0, locals := 0 } : Room).slots) := by
  refine MetFree.of_bodySF (plainFor_of_name own_pn1) hisR ?_
  intro p e s m args below meth c s₁ Bd hml0 hP hK
  obtain ⟨rfl, hZ, hh⟩ := hP
  have hx := Bd.exec
  have hby := Bd.bytes
  have hml : c.maxLocals = 3 := hml0
  have hown : s.vm.findClass "com/example/epsilonet/epsilonet/service/ObservationTree$Outcome" = some m.cls := findClass_of_methodNamed Bd.named
  have hnm := (name_of_methodNamed Bd.named Bd.method).1
  have X0 : Stand p l e ({ frames := 0, cells := 0, slots := 0, locals := 0 } : Room) s m #[(.ref a_1), (.ref a_2)] below meth c s₁ [] 0 0 := Stand.of_body Bd
  have e0 : s₁.heap = h0 := by rw [← hh, Bd.state]; rfl
  have N0 := Fr.nil n0
  have z0 : n0 ≤ h0.size := Z0
  have z1 := own_lt pr_E_a_2.lt
  show own_Go p.tables e below (fun t o => t.status = .running ∧ Ended t below o ∧ ∃ v L, o = .returned v ∧ own_Q4l Z a_1 a_2 h0 n0 v t.heap L ∧ FrameEnd s o t L ({ frames := 0, cells := 0, slots := 0, locals := 0 } : Room).cells ({ frames := 0, cells := 0, slots := 0, locals := 0 } : Room).slots) s₁ (entryFrame m #[(.ref a_1), (.ref a_2)] 3)
  rw [own_ef_own_rm4l m a_1 a_2]
  show own_Go _ _ _ _ s₁ (mkF m 0 #[.val (.ref a_1), .val (.ref a_2), .unset] [])
  refine own_go (fun _ k => XS.aloadN X0.here hx rfl (hb hby own_d4_0) rfl rfl k) ?_
  show own_Go _ _ _ _ s₁ (mkF m 1 #[.val (.ref a_1), .val (.ref a_2), .unset] [(.ref a_2)])
  obtain ⟨T2, X2, e2, st2⟩ := instNo X0 hx hZ hown (hw _ (List.mem_of_getElem? (i := 23) rfl)) e0 pr_E_a_2 (own_NSno (hw _ (List.mem_of_getElem? (i := 45) rfl)) (hw _ (List.mem_of_getElem? (i := 1) rfl)) (NS.step (hw _ (List.mem_of_getElem? (i := 45) rfl)) (NS.step (hw _ (List.mem_of_getElem? (i := 46) rfl)) (own_NSroot (hw _ (List.mem_of_getElem? (i := 47) rfl)) (hw _ (List.mem_of_getElem? (i := 1) rfl)) (by decide)) (by decide)) (by decide)) (by decide)) (g := (mkF m 1 #[.val (.ref a_1), .val (.ref a_2), .unset] [(.ref a_2)])) rfl rfl (hb hby own_d4_1)
  refine own_go (fun _ k => st2 _ k) ?_
  show own_Go _ _ _ _ T2 (mkF m 4 #[.val (.ref a_1), .val (.ref a_2), .unset] [(.int (0 : Int32))])
  have hc3 : (0 : Int32) = 0 := by decide
  refine own_go (fun _ k => XS.ifYes X2.here hx rfl (pc0 := 4) (pc' := 40) rfl (hb hby own_d4_4) rfl (Jvm.Free.XT.i0_eq_t hc3) (by decide) (by decide) k) ?_
  show own_Go _ _ _ _ T2 (mkF m 40 #[.val (.ref a_1), .val (.ref a_2), .unset] [])
  refine own_go (fun _ k => XS.iconst X2.here hx rfl (hb hby own_d4_40) k) ?_
  show own_Go _ _ _ _ T2 (mkF m 41 #[.val (.ref a_1), .val (.ref a_2), .unset] [(.int (0 : Int32))])
  obtain ⟨fs, hr, hrun, hended, hW, hsame⟩ := X2.leave (v := some (.int (0 : Int32))) (fun h => by rw [Bd.returns] at h; cases h)
  refine ⟨_, _, retOut X2 hx Bd.returns rfl (Or.inl ⟨rfl, Or.inr (Or.inl rfl), _, rfl⟩) (hb hby own_d4_41) hr, hrun, hended, _, _, rfl, ?_, ⟨_, rfl⟩, hW, hsame.mono (by decide) (by decide)⟩
  show own_Q4l Z a_1 a_2 h0 n0 _ T2.heap _
  rw [e2]
  exact ⟨rfl, N0, rfl⟩
theorem own_d7_0 : decode jdk_18_method_1_code 0 = .ok (.aload_n 0, 1) := by decide +kernel
theorem own_d7_1 : decode jdk_18_method_1_code 1 = .ok (.invokespecial 1, 3) := by decide +kernel
theorem own_d7_4 : decode jdk_18_method_1_code 4 = .ok (.return_, 1) := by decide +kernel
theorem own_ef_own_rm7 (m : MethodId) (x0 : Addr) : entryFrame m #[(.ref x0)] 1 = mkF m 0 #[.val (.ref x0)] [] := by first | (simp [entryFrame, mkF, argsToLocals, Value.category]; done) | rfl
def own_Q7 (Z : State) (a_1 : Addr) (h0 : Heap) (n0 : Nat) (v : Option Value) (h : Heap) (L : List Loc) : Prop := v = none ∧ Fr n0 L ∧ h = h0
set_option maxRecDepth 65536 in
set_option maxHeartbeats 40000000 in
theorem own_rm7 (l : Launch) (Z : State) (a0 : Array Value) (hw : ∀ d ∈ tables_1, d.before a0 Z = true) (ws : List Jvm.Cond) (a_1 : Addr) (h0 : Heap) (n0 : Nat) (Z0 : n0 ≤ h0.size) :
    MetFree l (⟨"java/lang/Number", "<init>", "()V"⟩ : MethodName) (head1 (Jvm.Cond.code (⟨"java/lang/Number", "<init>", "()V"⟩ : MethodName) jdk_18_method_1_code 1 none :: ws) ({ frames := 1, cells := 0, slots := 0, locals := 12 } : Room)) (fun a U => a = #[(.ref a_1)] ∧ Z.Warmed39 U.vm ∧ U.heap = h0) (fun _ _ _ _ _ => True) (fun _ U o U' => ∃ v L, o = .returned v ∧ own_Q7 Z a_1 h0 n0 v U'.heap L ∧ FrameEnd U o U' L ({ frames := 1, cells := 0, slots := 0, locals := 12 } : Room).cells ({ frames := 1, cells := 0, slots := 0, locals := 12 } : Room).slots) := by
  refine MetFree.of_bodySF (plainFor_of_name own_pn2) hisR ?_
  intro p e s m args below meth c s₁ Bd hml0 hP hK
  obtain ⟨rfl, hZ, hh⟩ := hP
  have hx := Bd.exec
  have hby := Bd.bytes
  have hml : c.maxLocals = 1 := hml0
  have hown : s.vm.findClass "java/lang/Number" = some m.cls := findClass_of_methodNamed Bd.named
  have hnm := (name_of_methodNamed Bd.named Bd.method).1
  have X0 : Stand p l e ({ frames := 1, cells := 0, slots := 0, locals := 12 } : Room) s m #[(.ref a_1)] below meth c s₁ [] 0 0 := Stand.of_body Bd
  have e0 : s₁.heap = h0 := by rw [← hh, Bd.state]; rfl
  have N0 := Fr.nil n0
  have z0 : n0 ≤ h0.size := Z0
  show own_Go p.tables e below (fun t o => t.status = .running ∧ Ended t below o ∧ ∃ v L, o = .returned v ∧ own_Q7 Z a_1 h0 n0 v t.heap L ∧ FrameEnd s o t L ({ frames := 1, cells := 0, slots := 0, locals := 12 } : Room).cells ({ frames := 1, cells := 0, slots := 0, locals := 12 } : Room).slots) s₁ (entryFrame m #[(.ref a_1)] 1)
  rw [own_ef_own_rm7 m a_1]
  show own_Go _ _ _ _ s₁ (mkF m 0 #[.val (.ref a_1)] [])
  refine own_go (fun _ k => XS.aloadN X0.here hx rfl (hb hby own_d7_0) rfl rfl k) ?_
  show own_Go _ _ _ _ s₁ (mkF m 1 #[.val (.ref a_1)] [(.ref a_1)])
  obtain ⟨T1, X1, e1, st1⟩ := initO X0 hx hZ hown (hw _ (List.mem_of_getElem? (i := 42) rfl)) (hw _ (List.mem_of_getElem? (i := 12) rfl)) (hw _ (List.mem_of_getElem? (i := 13) rfl)) e0 (g := (mkF m 1 #[.val (.ref a_1)] [(.ref a_1)])) rfl (by rw [hml]; rfl) rfl (hb hby own_d7_1) (by decide) (W := 0) (by show 2 * 0 + _ ≤ _; exact Nat.le_of_eq rfl) (by decide)
  refine own_go (fun _ k => st1 _ k) ?_
  show own_Go _ _ _ _ T1 (mkF m 4 #[.val (.ref a_1)] [])
  obtain ⟨fs, hr, hrun, hended, hW, hsame⟩ := X1.leave (v := none) (fun _ => rfl)
  refine ⟨_, _, X1.returnOut hx Bd.returns (hb hby own_d7_4) hr, hrun, hended, _, _, rfl, ?_, ⟨_, rfl⟩, hW, hsame.mono (by decide) (by decide)⟩
  show own_Q7 Z a_1 h0 n0 _ T1.heap _
  rw [e1]
  exact ⟨rfl, N0, rfl⟩
theorem own_d6_0 : decode jdk_35_method_26_code 0 = .ok (.aload_n 0, 1) := by decide +kernel
theorem own_d6_1 : decode jdk_35_method_26_code 1 = .ok (.invokespecial 270, 3) := by decide +kernel
theorem own_d6_4 : decode jdk_35_method_26_code 4 = .ok (.aload_n 0, 1) := by decide +kernel
theorem own_d6_5 : decode jdk_35_method_26_code 5 = .ok (.lload_n 1, 1) := by decide +kernel
theorem own_d6_6 : decode jdk_35_method_26_code 6 = .ok (.putfield 273, 3) := by decide +kernel
theorem own_d6_9 : decode jdk_35_method_26_code 9 = .ok (.return_, 1) := by decide +kernel
theorem own_ef_own_rm6 (m : MethodId) (x0 : Addr) (x1 : Int64) : entryFrame m #[(.ref x0), (.long x1)] 3 = mkF m 0 #[.val (.ref x0), .val (.long x1), .second] [] := by first | (simp [entryFrame, mkF, argsToLocals, Value.category]; done) | rfl
def own_Q6 (Z : State) (a_1 : Addr) (q_2 : Int64) (w_value_a_1 : Int64) (h0 : Heap) (n0 : Nat) (v : Option Value) (h : Heap) (L : List Loc) : Prop := v = none ∧ Fr n0 L ∧ Keep h0 h [a_1] ∧ Exa Z h a_1 "java/lang/Long" ∧ Fld Z h a_1 "java/lang/Long" "value" "J" (.long q_2)
set_option maxRecDepth 65536 in
set_option maxHeartbeats 40000000 in
theorem own_rm6 (l : Launch) (Z : State) (a0 : Array Value) (hw : ∀ d ∈ tables_1, d.before a0 Z = true) (ws : List Jvm.Cond) (a_1 : Addr) (q_2 : Int64) (w_value_a_1 : Int64) (h0 : Heap) (n0 : Nat) (Z0 : n0 ≤ h0.size) (pr_E_a_1 : Exa Z h0 a_1 "java/lang/Long") (pr_F_a_1_value : Fld Z h0 a_1 "java/lang/Long" "value" "J" (.long w_value_a_1)) (gw_a_1 : n0 ≤ a_1) :
    MetFree l (⟨"java/lang/Long", "<init>", "(J)V"⟩ : MethodName) (head1 (Jvm.Cond.code (⟨"java/lang/Long", "<init>", "(J)V"⟩ : MethodName) jdk_35_method_26_code 3 none :: ws) ({ frames := 2, cells := 0, slots := 0, locals := 24 } : Room)) (fun a U => a = #[(.ref a_1), (.long q_2)] ∧ Z.Warmed39 U.vm ∧ U.heap = h0) (fun _ _ _ _ _ => True) (fun _ U o U' => ∃ v L, o = .returned v ∧ own_Q6 Z a_1 q_2 w_value_a_1 h0 n0 v U'.heap L ∧ FrameEnd U o U' L ({ frames := 2, cells := 0, slots := 0, locals := 24 } : Room).cells ({ frames := 2, cells := 0, slots := 0, locals := 24 } : Room).slots) := by
  refine MetFree.of_bodySF (plainFor_of_name own_pn3) hisR ?_
  intro p e s m args below meth c s₁ Bd hml0 hP hK
  obtain ⟨rfl, hZ, hh⟩ := hP
  have hx := Bd.exec
  have hby := Bd.bytes
  have hml : c.maxLocals = 3 := hml0
  have hown : s.vm.findClass "java/lang/Long" = some m.cls := findClass_of_methodNamed Bd.named
  have hnm := (name_of_methodNamed Bd.named Bd.method).1
  have X0 : Stand p l e ({ frames := 2, cells := 0, slots := 0, locals := 24 } : Room) s m #[(.ref a_1), (.long q_2)] below meth c s₁ [] 0 0 := Stand.of_body Bd
  have e0 : s₁.heap = h0 := by rw [← hh, Bd.state]; rfl
  have N0 := Fr.nil n0
  have z0 : n0 ≤ h0.size := Z0
  have z1 := own_lt pr_E_a_1.lt
  have z2 := own_lt pr_F_a_1_value.lt
  have K0 : Keep h0 h0 [a_1] := Keep.refl h0 _
  show own_Go p.tables e below (fun t o => t.status = .running ∧ Ended t below o ∧ ∃ v L, o = .returned v ∧ own_Q6 Z a_1 q_2 w_value_a_1 h0 n0 v t.heap L ∧ FrameEnd s o t L ({ frames := 2, cells := 0, slots := 0, locals := 24 } : Room).cells ({ frames := 2, cells := 0, slots := 0, locals := 24 } : Room).slots) s₁ (entryFrame m #[(.ref a_1), (.long q_2)] 3)
  rw [own_ef_own_rm6 m a_1 q_2]
  show own_Go _ _ _ _ s₁ (mkF m 0 #[.val (.ref a_1), .val (.long q_2), .second] [])
  refine own_go (fun _ k => XS.aloadN X0.here hx rfl (hb hby own_d6_0) rfl rfl k) ?_
  show own_Go _ _ _ _ s₁ (mkF m 1 #[.val (.ref a_1), .val (.long q_2), .second] [(.ref a_1)])
  obtain ⟨_, _, ⟨T3, L3, k3, n3⟩, -, X3, ⟨Lc3, hQ3, l3, y3, z3⟩, st3⟩ := X0.specialBack hx (y := (⟨"java/lang/Number", "<init>", "()V"⟩ : MethodName)) rfl hown (mvT hZ (hw _ (List.mem_of_getElem? (i := 36) rfl))) (mvT hZ (hw _ (List.mem_of_getElem? (i := 37) rfl))) (mvT hZ (hw _ (List.mem_of_getElem? (i := 41) rfl))) (by decide) (backOf (W := 0) (own_rm7 l Z a0 hw [] a_1  h0 n0 (by omega) ) hZ (hw _ (List.mem_of_getElem? (i := 41) rfl)) (hw _ (List.mem_of_getElem? (i := 40) rfl)) (by decide) (by decide)) (g := (mkF m 1 #[.val (.ref a_1), .val (.long q_2), .second] [(.ref a_1)])) rfl (by rw [hml]; rfl) (Steps.refl _) (a := a_1) (argsL := []) (rest := []) (lenOf own_pd0 rfl) rfl (by show 2 * 0 + _ ≤ _; exact Nat.le_of_eq rfl) (hb hby own_d6_1) (fun _ _ => ⟨rfl, e0, (by decide : 0 + 0 ≤ _), (by decide : 0 + 0 ≤ _)⟩)
  dsimp only [Pt.U, Pt.locs, Pt.cells, Pt.slots] at X3 l3 y3 z3 st3 hQ3
  have y3 : k3 = 0 := y3
  have z3 : n3 = 0 := z3
  obtain ⟨rfl, N3q, e3⟩ := hQ3
  have N3 : Fr n0 L3 := by rw [l3]; exact Fr.app N0 N3q
  refine own_go (fun _ k => st3.trans k) ?_
  show own_Go _ _ _ _ T3 (mkF m 4 #[.val (.ref a_1), .val (.long q_2), .second] [])
  refine own_go (fun _ k => XS.aloadN X3.here hx rfl (hb hby own_d6_4) rfl rfl k) ?_
  show own_Go _ _ _ _ T3 (mkF m 5 #[.val (.ref a_1), .val (.long q_2), .second] [(.ref a_1)])
  refine own_go (fun _ k => XS.lloadN X3.here hx rfl (hb hby own_d6_5) rfl k) ?_
  show own_Go _ _ _ _ T3 (mkF m 6 #[.val (.ref a_1), .val (.long q_2), .second] [(.long q_2), (.ref a_1)])
  obtain ⟨T4, h4, X4, e4, W4, st4⟩ := putF X3 hx hZ hown (host := "") (Or.inl (hw _ (List.mem_of_getElem? (i := 43) rfl))) Via.refl e3 pr_F_a_1_value pr_E_a_1 (Or.inr ⟨(hw _ (List.mem_of_getElem? (i := 44) rfl)), rfl, hnm⟩) (hw _ (List.mem_of_getElem? (i := 31) rfl)) (ty := .long) (by decide) rfl rfl (g := (mkF m 6 #[.val (.ref a_1), .val (.long q_2), .second] [(.long q_2), (.ref a_1)])) rfl rfl (hb hby own_d6_6)
  have z5 := W4.size
  have K4 : Keep h0 h4 [a_1] := K0.wr W4 (Or.inl (List.mem_of_getElem? (i := 0) rfl))
  have N4 := Fr.snoc X4 N3 (by omega : n0 ≤ a_1)
  have Fw4 : Fld Z h4 a_1 "java/lang/Long" "value" "J" (.long q_2) := Fld.same W4 pr_F_a_1_value
  refine own_go (fun _ k => st4 _ k) ?_
  show own_Go _ _ _ _ T4 (mkF m 9 #[.val (.ref a_1), .val (.long q_2), .second] [])
  obtain ⟨fs, hr, hrun, hended, hW, hsame⟩ := X4.leave (v := none) (fun _ => rfl)
  refine ⟨_, _, X4.returnOut hx Bd.returns (hb hby own_d6_9) hr, hrun, hended, _, _, rfl, ?_, ⟨_, rfl⟩, hW, hsame.mono (by rw [y3]; decide) (by rw [z3]; decide)⟩
  show own_Q6 Z a_1 q_2 w_value_a_1 h0 n0 _ T4.heap _
  rw [e4]
  have f7 : Exa Z h4 a_1 "java/lang/Long" := (pr_E_a_1.wr W4)
  exact ⟨rfl, N4, K4, f7, Fw4⟩
theorem own_d5_0 : decode jdk_35_method_24_code 0 = .ok (.sipush 128, 3) := by decide +kernel
theorem own_d5_3 : decode jdk_35_method_24_code 3 = .ok (.istore_n 2, 1) := by decide +kernel
theorem own_d5_4 : decode jdk_35_method_24_code 4 = .ok (.lload_n 0, 1) := by decide +kernel
theorem own_d5_5 : decode jdk_35_method_24_code 5 = .ok (.ldc2_w 230, 3) := by decide +kernel
theorem own_d5_8 : decode jdk_35_method_24_code 8 = .ok (.lcmp, 1) := by decide +kernel
theorem own_d5_9 : decode jdk_35_method_24_code 9 = .ok (.ifCond .lt 22, 3) := by decide +kernel
theorem own_d5_12 : decode jdk_35_method_24_code 12 = .ok (.lload_n 0, 1) := by decide +kernel
theorem own_d5_13 : decode jdk_35_method_24_code 13 = .ok (.ldc2_w 232, 3) := by decide +kernel
theorem own_d5_16 : decode jdk_35_method_24_code 16 = .ok (.lcmp, 1) := by decide +kernel
theorem own_d5_17 : decode jdk_35_method_24_code 17 = .ok (.ifCond .gt 14, 3) := by decide +kernel
theorem own_d5_20 : decode jdk_35_method_24_code 20 = .ok (.getstatic 234, 3) := by decide +kernel
theorem own_d5_23 : decode jdk_35_method_24_code 23 = .ok (.lload_n 0, 1) := by decide +kernel
theorem own_d5_24 : decode jdk_35_method_24_code 24 = .ok (.l2i, 1) := by decide +kernel
theorem own_d5_25 : decode jdk_35_method_24_code 25 = .ok (.sipush 128, 3) := by decide +kernel
theorem own_d5_28 : decode jdk_35_method_24_code 28 = .ok (.iadd, 1) := by decide +kernel
theorem own_d5_29 : decode jdk_35_method_24_code 29 = .ok (.aaload, 1) := by decide +kernel
theorem own_d5_30 : decode jdk_35_method_24_code 30 = .ok (.areturn, 1) := by decide +kernel
theorem own_d5_31 : decode jdk_35_method_24_code 31 = .ok (.new 1, 3) := by decide +kernel
theorem own_d5_34 : decode jdk_35_method_24_code 34 = .ok (.dup, 1) := by decide +kernel
theorem own_d5_35 : decode jdk_35_method_24_code 35 = .ok (.lload_n 0, 1) := by decide +kernel
theorem own_d5_36 : decode jdk_35_method_24_code 36 = .ok (.invokespecial 240, 3) := by decide +kernel
theorem own_d5_39 : decode jdk_35_method_24_code 39 = .ok (.areturn, 1) := by decide +kernel
theorem own_ef_own_rm5 (m : MethodId) (x0 : Int64) : entryFrame m #[(.long x0)] 3 = mkF m 0 #[.val (.long x0), .second, .unset] [] := by first | (simp [entryFrame, mkF, argsToLocals, Value.category]; done) | rfl
set_option maxRecDepth 65536 in
set_option maxHeartbeats 4000000 in
theorem own_t5_0 (q_1 : Int64) (hc2 : ¬ (q_1 < (-128 : Int64))) (hc12 : ¬ ((127 : Int64) < q_1)) : ¬ ((q_1.toInt32) + (128 : Int32)) < 0 ∧ ((q_1.toInt32) + (128 : Int32)) < (256 : Int32) := by
  have a := c_l2i q_1
  have b := c_iadd q_1.toInt32 128
  have r1 := rng32 q_1.toInt32
  have r2 := rng32 (q_1.toInt32 + 128)
  have e1 : (-128 : Int64).toInt = -128 := by decide
  have e2 : (127 : Int64).toInt = 127 := by decide
  have e3 : (128 : Int32).toInt = 128 := by decide
  have e4 : (256 : Int32).toInt = 256 := by decide
  have e5 : (0 : Int32).toInt = 0 := by decide
  simp only [Int64.lt_iff_toInt_lt, Int32.lt_iff_toInt_lt, e1, e2, e3, e4, e5] at *
  omega
def own_Q5 (Z : State) (q_1 : Int64) (wsc : Addr) (g_ : Nat → Value) (h0 : Heap) (n0 : Nat) (v : Option Value) (h : Heap) (L : List Loc) : Prop := ∃ (b : Addr), v = some (.ref b) ∧ Fr n0 L ∧ Keep h0 h [] ∧ Exa Z h b "java/lang/Long"
set_option maxRecDepth 65536 in
set_option maxHeartbeats 40000000 in
theorem own_rm5 (l : Launch) (Z : State) (a0 : Array Value) (hw : ∀ d ∈ tables_1, d.before a0 Z = true) (ws : List Jvm.Cond) (q_1 : Int64) (wsc : Addr) (g_ : Nat → Value) (h0 : Heap) (n0 : Nat) (Z0 : n0 ≤ h0.size) (pr_S_java_lang_Long_LongCache_cache : Sta Z h0 "java/lang/Long$LongCache" "cache" "[Ljava/lang/Long;" (.ref wsc)) (pr_A_wsc : own_AV Z h0 wsc (.object "java/lang/Long") (256 : Int32) g_) (hcache : ∀ i, i < (256 : Int32).toNatClampNeg → ∃ a, g_ i = .ref a ∧ Exa Z h0 a "java/lang/Long") :
    MetFree l (⟨"java/lang/Long", "valueOf", "(J)Ljava/lang/Long;"⟩ : MethodName) (head1 (Jvm.Cond.code (⟨"java/lang/Long", "valueOf", "(J)Ljava/lang/Long;"⟩ : MethodName) jdk_35_method_24_code 3 (some (.object "java/lang/Long")) :: ws) ({ frames := 3, cells := 1, slots := 1, locals := 39 } : Room)) (fun a U => a = #[(.long q_1)] ∧ Z.Warmed39 U.vm ∧ U.heap = h0) (fun _ _ _ _ _ => True) (fun _ U o U' => ∃ v L, o = .returned v ∧ own_Q5 Z q_1 wsc g_ h0 n0 v U'.heap L ∧ FrameEnd U o U' L ({ frames := 3, cells := 1, slots := 1, locals := 39 } : Room).cells ({ frames := 3, cells := 1, slots := 1, locals := 39 } : Room).slots) := by
  refine MetFree.of_bodySF (plainFor_of_name own_pn3) hisR ?_
  intro p e s m args below meth c s₁ Bd hml0 hP hK
  obtain ⟨rfl, hZ, hh⟩ := hP
  have hx := Bd.exec
  have hby := Bd.bytes
  have hml : c.maxLocals = 3 := hml0
  have hown : s.vm.findClass "java/lang/Long" = some m.cls := findClass_of_methodNamed Bd.named
  have hnm := (name_of_methodNamed Bd.named Bd.method).1
  have X0 : Stand p l e ({ frames := 3, cells := 1, slots := 1, locals := 39 } : Room) s m #[(.long q_1)] below meth c s₁ [] 0 0 := Stand.of_body Bd
  have e0 : s₁.heap = h0 := by rw [← hh, Bd.state]; rfl
  have N0 := Fr.nil n0
  have z0 : n0 ≤ h0.size := Z0
  have z1 := own_lt pr_A_wsc.lt
  have K0 : Keep h0 h0 [] := Keep.refl h0 _
  show own_Go p.tables e below (fun t o => t.status = .running ∧ Ended t below o ∧ ∃ v L, o = .returned v ∧ own_Q5 Z q_1 wsc g_ h0 n0 v t.heap L ∧ FrameEnd s o t L ({ frames := 3, cells := 1, slots := 1, locals := 39 } : Room).cells ({ frames := 3, cells := 1, slots := 1, locals := 39 } : Room).slots) s₁ (entryFrame m #[(.long q_1)] 3)
  rw [own_ef_own_rm5 m q_1]
  show own_Go _ _ _ _ s₁ (mkF m 0 #[.val (.long q_1), .second, .unset] [])
  refine own_go (fun _ k => XS.sipush X0.here hx rfl (hb hby own_d5_0) k) ?_
  show own_Go _ _ _ _ s₁ (mkF m 3 #[.val (.long q_1), .second, .unset] [(.int (128 : Int32))])
  refine own_go (fun _ k => XS.istoreN X0.here hx rfl (hb hby own_d5_3) rfl (l' := #[.val (.long q_1), .second, .val (.int (128 : Int32))]) rfl k) ?_
  show own_Go _ _ _ _ s₁ (mkF m 4 #[.val (.long q_1), .second, .val (.int (128 : Int32))] [])
  refine own_go (fun _ k => XS.lloadN X0.here hx rfl (hb hby own_d5_4) rfl k) ?_
  show own_Go _ _ _ _ s₁ (mkF m 5 #[.val (.long q_1), .second, .val (.int (128 : Int32))] [(.long q_1)])
  refine own_go (fun _ k => X0.ldc2Long hx hown (mvT hZ (hw _ (List.mem_of_getElem? (i := 29) rfl))) (g := (mkF m 5 #[.val (.long q_1), .second, .val (.int (128 : Int32))] [(.long q_1)])) rfl (hb hby own_d5_5) _ k) ?_
  show own_Go _ _ _ _ s₁ (mkF m 8 #[.val (.long q_1), .second, .val (.int (128 : Int32))] [(.long (-128 : Int64)), (.long q_1)])
  refine own_go (fun _ k => XS.lcmp X0.here hx rfl (hb hby own_d5_8) rfl k) ?_
  show own_Go _ _ _ _ s₁ (mkF m 9 #[.val (.long q_1), .second, .val (.int (128 : Int32))] [(.int (lcmpW q_1 (-128 : Int64)))])
  by_cases hc2 : q_1 < (-128 : Int64)
  · refine own_go (fun _ k => XS.ifYes X0.here hx rfl (pc0 := 9) (pc' := 31) rfl (hb hby own_d5_9) rfl (Jvm.Free.XT.ll_lt_t hc2) (by decide) (by decide) k) ?_
    show own_Go _ _ _ _ s₁ (mkF m 31 #[.val (.long q_1), .second, .val (.int (128 : Int32))] [])
    obtain ⟨T3, h3, X3, e3, E3, A3, D3, Y3, st3⟩ := newO X0 hx hZ hown (hw _ (List.mem_of_getElem? (i := 30) rfl)) (hw _ (List.mem_of_getElem? (i := 31) rfl)) (hw _ (List.mem_of_getElem? (i := 27) rfl)) e0 (g := (mkF m 31 #[.val (.long q_1), .second, .val (.int (128 : Int32))] [])) rfl (hb hby own_d5_31) (by decide) (by decide)
    obtain ⟨b3, g3⟩ : ∃ z, z = h0.size := ⟨_, rfl⟩
    rw [← g3] at A3 D3 Y3 st3
    have z4 := E3.1
    have lt_b3 := own_lt A3.lt
    have K3 : Keep h0 h3 [] := K0.ext E3
    have F_value_b3 : Fld Z h3 b3 "java/lang/Long" "value" "J" (.long (0 : Int64)) := D3 (Or.inr (hw _ (List.mem_of_getElem? (i := 44) rfl))) (ty := .long) (by decide)
    refine own_go (fun _ k => st3 _ k) ?_
    show own_Go _ _ _ _ T3 (mkF m 34 #[.val (.long q_1), .second, .val (.int (128 : Int32))] [(.ref b3)])
    refine own_go (fun _ k => XS.dup X3.here hx rfl (hb hby own_d5_34) rfl rfl k) ?_
    show own_Go _ _ _ _ T3 (mkF m 35 #[.val (.long q_1), .second, .val (.int (128 : Int32))] [(.ref b3), (.ref b3)])
    refine own_go (fun _ k => XS.lloadN X3.here hx rfl (hb hby own_d5_35) rfl k) ?_
    show own_Go _ _ _ _ T3 (mkF m 36 #[.val (.long q_1), .second, .val (.int (128 : Int32))] [(.long q_1), (.ref b3), (.ref b3)])
    obtain ⟨_, _, ⟨T5, L5, k5, n5⟩, -, X5, ⟨Lc5, hQ5, l5, y5, z5⟩, st5⟩ := X3.specialBack hx (y := (⟨"java/lang/Long", "<init>", "(J)V"⟩ : MethodName)) rfl hown (mvT hZ (hw _ (List.mem_of_getElem? (i := 32) rfl))) (mvT hZ (hw _ (List.mem_of_getElem? (i := 33) rfl))) (mvT hZ (hw _ (List.mem_of_getElem? (i := 35) rfl))) (by decide) (backOf (W := 1) (own_rm6 l Z a0 hw [] b3 q_1 (0 : Int64) h3 n0 (by omega) A3 F_value_b3 (by omega)) hZ (hw _ (List.mem_of_getElem? (i := 35) rfl)) (hw _ (List.mem_of_getElem? (i := 27) rfl)) (by decide) (by decide)) (g := (mkF m 36 #[.val (.long q_1), .second, .val (.int (128 : Int32))] [(.long q_1), (.ref b3), (.ref b3)])) rfl (by rw [hml]; rfl) (Steps.refl _) (a := b3) (argsL := [(.long q_1)]) (rest := [(.ref b3)]) (lenOf own_pd1 rfl) rfl (by show 2 * 0 + _ ≤ _; exact Nat.le_of_eq rfl) (hb hby own_d5_36) (fun _ _ => ⟨rfl, e3, (by decide : 1 + 0 ≤ _), (by decide : 1 + 0 ≤ _)⟩)
    dsimp only [Pt.U, Pt.locs, Pt.cells, Pt.slots] at X5 l5 y5 z5 st5 hQ5
    have y5 : k5 = 1 := y5
    have z5 : n5 = 1 := z5
    obtain ⟨rfl, N5q, K5q, f6, f7⟩ := hQ5
    have N5 : Fr n0 L5 := by rw [l5]; exact Fr.app N0 N5q
    have z8 := K5q.1
    have K5 : Keep h0 T5.heap [] := K3.trans K5q (allS (Or.inr (by omega)) all0)
    have z9 := own_lt f6.lt
    have z10 := own_lt f7.lt
    refine own_go (fun _ k => st5.trans k) ?_
    show own_Go _ _ _ _ T5 (mkF m 39 #[.val (.long q_1), .second, .val (.int (128 : Int32))] [(.ref b3)])
    obtain ⟨fs, hr, hrun, hended, hW, hsame⟩ := X5.leave (v := some (.ref b3)) (fun h => by rw [Bd.returns] at h; cases h)
    refine ⟨_, _, retOut X5 hx Bd.returns rfl (Or.inr (Or.inr (Or.inr (Or.inr ⟨rfl, rfl, rfl⟩)))) (hb hby own_d5_39) hr, hrun, hended, _, _, rfl, ?_, ⟨_, rfl⟩, hW, hsame.mono (by rw [y5]; decide) (by rw [z5]; decide)⟩
    exact ⟨b3, rfl, N5, K5, f6⟩
  · refine own_go (fun _ k => XS.ifNo X0.here hx rfl (hb hby own_d5_9) rfl (Jvm.Free.XT.ll_lt_f hc2) k) ?_
    show own_Go _ _ _ _ s₁ (mkF m 12 #[.val (.long q_1), .second, .val (.int (128 : Int32))] [])
    refine own_go (fun _ k => XS.lloadN X0.here hx rfl (hb hby own_d5_12) rfl k) ?_
    show own_Go _ _ _ _ s₁ (mkF m 13 #[.val (.long q_1), .second, .val (.int (128 : Int32))] [(.long q_1)])
    refine own_go (fun _ k => X0.ldc2Long hx hown (mvT hZ (hw _ (List.mem_of_getElem? (i := 48) rfl))) (g := (mkF m 13 #[.val (.long q_1), .second, .val (.int (128 : Int32))] [(.long q_1)])) rfl (hb hby own_d5_13) _ k) ?_
    show own_Go _ _ _ _ s₁ (mkF m 16 #[.val (.long q_1), .second, .val (.int (128 : Int32))] [(.long (127 : Int64)), (.long q_1)])
    refine own_go (fun _ k => XS.lcmp X0.here hx rfl (hb hby own_d5_16) rfl k) ?_
    show own_Go _ _ _ _ s₁ (mkF m 17 #[.val (.long q_1), .second, .val (.int (128 : Int32))] [(.int (lcmpW q_1 (127 : Int64)))])
    by_cases hc12 : (127 : Int64) < q_1
    · refine own_go (fun _ k => XS.ifYes X0.here hx rfl (pc0 := 17) (pc' := 31) rfl (hb hby own_d5_17) rfl (Jvm.Free.XT.ll_gt_t hc12) (by decide) (by decide) k) ?_
      show own_Go _ _ _ _ s₁ (mkF m 31 #[.val (.long q_1), .second, .val (.int (128 : Int32))] [])
      obtain ⟨T13, h13, X13, e13, E13, A13, D13, Y13, st13⟩ := newO X0 hx hZ hown (hw _ (List.mem_of_getElem? (i := 30) rfl)) (hw _ (List.mem_of_getElem? (i := 31) rfl)) (hw _ (List.mem_of_getElem? (i := 27) rfl)) e0 (g := (mkF m 31 #[.val (.long q_1), .second, .val (.int (128 : Int32))] [])) rfl (hb hby own_d5_31) (by decide) (by decide)
      obtain ⟨b13, g13⟩ : ∃ z, z = h0.size := ⟨_, rfl⟩
      rw [← g13] at A13 D13 Y13 st13
      have z14 := E13.1
      have lt_b13 := own_lt A13.lt
      have K13 : Keep h0 h13 [] := K0.ext E13
      have F_value_b13 : Fld Z h13 b13 "java/lang/Long" "value" "J" (.long (0 : Int64)) := D13 (Or.inr (hw _ (List.mem_of_getElem? (i := 44) rfl))) (ty := .long) (by decide)
      refine own_go (fun _ k => st13 _ k) ?_
      show own_Go _ _ _ _ T13 (mkF m 34 #[.val (.long q_1), .second, .val (.int (128 : Int32))] [(.ref b13)])
      refine own_go (fun _ k => XS.dup X13.here hx rfl (hb hby own_d5_34) rfl rfl k) ?_
      show own_Go _ _ _ _ T13 (mkF m 35 #[.val (.long q_1), .second, .val (.int (128 : Int32))] [(.ref b13), (.ref b13)])
      refine own_go (fun _ k => XS.lloadN X13.here hx rfl (hb hby own_d5_35) rfl k) ?_
      show own_Go _ _ _ _ T13 (mkF m 36 #[.val (.long q_1), .second, .val (.int (128 : Int32))] [(.long q_1), (.ref b13), (.ref b13)])
      obtain ⟨_, _, ⟨T15, L15, k15, n15⟩, -, X15, ⟨Lc15, hQ15, l15, y15, z15⟩, st15⟩ := X13.specialBack hx (y := (⟨"java/lang/Long", "<init>", "(J)V"⟩ : MethodName)) rfl hown (mvT hZ (hw _ (List.mem_of_getElem? (i := 32) rfl))) (mvT hZ (hw _ (List.mem_of_getElem? (i := 33) rfl))) (mvT hZ (hw _ (List.mem_of_getElem? (i := 35) rfl))) (by decide) (backOf (W := 1) (own_rm6 l Z a0 hw [] b13 q_1 (0 : Int64) h13 n0 (by omega) A13 F_value_b13 (by omega)) hZ (hw _ (List.mem_of_getElem? (i := 35) rfl)) (hw _ (List.mem_of_getElem? (i := 27) rfl)) (by decide) (by decide)) (g := (mkF m 36 #[.val (.long q_1), .second, .val (.int (128 : Int32))] [(.long q_1), (.ref b13), (.ref b13)])) rfl (by rw [hml]; rfl) (Steps.refl _) (a := b13) (argsL := [(.long q_1)]) (rest := [(.ref b13)]) (lenOf own_pd1 rfl) rfl (by show 2 * 0 + _ ≤ _; exact Nat.le_of_eq rfl) (hb hby own_d5_36) (fun _ _ => ⟨rfl, e13, (by decide : 1 + 0 ≤ _), (by decide : 1 + 0 ≤ _)⟩)
      dsimp only [Pt.U, Pt.locs, Pt.cells, Pt.slots] at X15 l15 y15 z15 st15 hQ15
      have y15 : k15 = 1 := y15
      have z15 : n15 = 1 := z15
      obtain ⟨rfl, N15q, K15q, f16, f17⟩ := hQ15
      have N15 : Fr n0 L15 := by rw [l15]; exact Fr.app N0 N15q
      have z18 := K15q.1
      have K15 : Keep h0 T15.heap [] := K13.trans K15q (allS (Or.inr (by omega)) all0)
      have z19 := own_lt f16.lt
      have z20 := own_lt f17.lt
      refine own_go (fun _ k => st15.trans k) ?_
      show own_Go _ _ _ _ T15 (mkF m 39 #[.val (.long q_1), .second, .val (.int (128 : Int32))] [(.ref b13)])
      obtain ⟨fs, hr, hrun, hended, hW, hsame⟩ := X15.leave (v := some (.ref b13)) (fun h => by rw [Bd.returns] at h; cases h)
      refine ⟨_, _, retOut X15 hx Bd.returns rfl (Or.inr (Or.inr (Or.inr (Or.inr ⟨rfl, rfl, rfl⟩)))) (hb hby own_d5_39) hr, hrun, hended, _, _, rfl, ?_, ⟨_, rfl⟩, hW, hsame.mono (by rw [y15]; decide) (by rw [z15]; decide)⟩
      exact ⟨b13, rfl, N15, K15, f16⟩
    · refine own_go (fun _ k => XS.ifNo X0.here hx rfl (hb hby own_d5_17) rfl (Jvm.Free.XT.ll_gt_f hc12) k) ?_
      show own_Go _ _ _ _ s₁ (mkF m 20 #[.val (.long q_1), .second, .val (.int (128 : Int32))] [])
      obtain ⟨T22, X22, e22, st22⟩ := getS2 X0 hx hZ hown (host := "") (Or.inl (hw _ (List.mem_of_getElem? (i := 49) rfl))) Via.refl e0 pr_S_java_lang_Long_LongCache_cache (g := (mkF m 20 #[.val (.long q_1), .second, .val (.int (128 : Int32))] [])) rfl (hb hby own_d5_20)
      refine own_go (fun _ k => st22 _ k) ?_
      show own_Go _ _ _ _ T22 (mkF m 23 #[.val (.long q_1), .second, .val (.int (128 : Int32))] [(.ref wsc)])
      refine own_go (fun _ k => XS.lloadN X22.here hx rfl (hb hby own_d5_23) rfl k) ?_
      show own_Go _ _ _ _ T22 (mkF m 24 #[.val (.long q_1), .second, .val (.int (128 : Int32))] [(.long q_1), (.ref wsc)])
      refine own_go (fun _ k => XS.l2i X22.here hx rfl (hb hby own_d5_24) rfl k) ?_
      show own_Go _ _ _ _ T22 (mkF m 25 #[.val (.long q_1), .second, .val (.int (128 : Int32))] [(.int (q_1.toInt32)), (.ref wsc)])
      refine own_go (fun _ k => XS.sipush X22.here hx rfl (hb hby own_d5_25) k) ?_
      show own_Go _ _ _ _ T22 (mkF m 28 #[.val (.long q_1), .second, .val (.int (128 : Int32))] [(.int (128 : Int32)), (.int (q_1.toInt32)), (.ref wsc)])
      refine own_go (fun _ k => XS.iadd X22.here hx rfl (hb hby own_d5_28) rfl k) ?_
      show own_Go _ _ _ _ T22 (mkF m 29 #[.val (.long q_1), .second, .val (.int (128 : Int32))] [(.int ((q_1.toInt32) + (128 : Int32))), (.ref wsc)])
      obtain ⟨q23, c23, R23, s23, t23⟩ := id pr_A_wsc
      have hin23 : ¬ (((q_1.toInt32) + (128 : Int32)) < 0 ∨ c23.slots.size ≤ (((q_1.toInt32) + (128 : Int32))).toNatClampNeg) := inb_of s23 (own_t5_0 q_1 hc2 hc12)
      obtain ⟨ac, eac, Eac⟩ := hcache _ (by have q := Nat.lt_of_not_le fun y => hin23 (Or.inr y); rw [s23] at q; exact q)
      have u23 : c23.slots[(((q_1.toInt32) + (128 : Int32))).toNatClampNeg]? = some (.ref ac) := own_at (k := (((q_1.toInt32) + (128 : Int32))).toNatClampNeg) t23 s23 hin23 rfl (eac)
      refine own_go (fun _ k => X22.aaload hx (j := ((q_1.toInt32) + (128 : Int32))) (v := (.ref ac)) (by rw [e22]; exact R23.1) (State.isArrayOf_alike hZ.alike R23.2.1) rfl R23.2.2 hin23 u23 (g := (mkF m 29 #[.val (.long q_1), .second, .val (.int (128 : Int32))] [(.int ((q_1.toInt32) + (128 : Int32))), (.ref wsc)])) rfl rfl (hb hby own_d5_29) _ k) ?_
      show own_Go _ _ _ _ T22 (mkF m 30 #[.val (.long q_1), .second, .val (.int (128 : Int32))] [(.ref ac)])
      obtain ⟨fs, hr, hrun, hended, hW, hsame⟩ := X22.leave (v := some (.ref ac)) (fun h => by rw [Bd.returns] at h; cases h)
      refine ⟨_, _, retOut X22 hx Bd.returns rfl (Or.inr (Or.inr (Or.inr (Or.inr ⟨rfl, rfl, rfl⟩)))) (hb hby own_d5_30) hr, hrun, hended, _, _, rfl, ?_, ⟨_, rfl⟩, hW, hsame.mono (by decide) (by decide)⟩
      show own_Q5 Z q_1 wsc g_ h0 n0 _ T22.heap _
      rw [e22]
      exact ⟨ac, rfl, N0, K0, Eac⟩
theorem own_ef_own_rm0 (m : MethodId) (x0 : Int64) (x1 : Int64) (x2 : Int64) (x3 : Int64) (x4 : Int32) : entryFrame m #[(.long x0), (.long x1), (.long x2), (.long x3), (.int x4)] maxLocals = mkF m 0 #[.val (.long x0), .second, .val (.long x1), .second, .val (.long x2), .second, .val (.long x3), .second, .val (.int x4), .unset, .unset, .unset, .unset, .unset, .unset, .unset, .unset] [] := by first | (simp [entryFrame, mkF, argsToLocals, Value.category, maxLocals]; done) | rfl
set_option maxRecDepth 65536 in
set_option maxHeartbeats 4000000 in
theorem own_t0_0 (q_1 : Int64) (q_2 : Int64) (q_3 : Int64) (q_4 : Int64) (r48 : Int32) (hc42 : q_1 = q_3) (hc43 : q_2 = q_4) (hr_r48 : r48 = (own_rm4_ret q_1 q_3 q_2 q_4)) : r48 = (1 : Int32) := by
  grind [own_rm4_ret]
set_option maxRecDepth 65536 in
set_option maxHeartbeats 4000000 in
theorem own_t0_1 (q_1 : Int64) (q_2 : Int64) (q_3 : Int64) (q_4 : Int64) (r48 : Int32) (r51 : Int32) (hc42 : q_1 = q_3) (hc43 : q_2 = q_4) (hr_r48 : r48 = (own_rm4_ret q_1 q_3 q_2 q_4)) (hc49 : r48 = (1 : Int32)) (hr_r51 : r51 = (own_rm4_ret q_3 q_1 q_4 q_2)) : r51 = (1 : Int32) := by
  grind [own_rm4_ret]
set_option maxRecDepth 65536 in
set_option maxHeartbeats 4000000 in
theorem own_t0_2 (q_1 : Int64) (q_2 : Int64) (q_3 : Int64) (q_4 : Int64) (r48 : Int32) (r51 : Int32) (r54 : Int32) (hc42 : q_1 = q_3) (hc43 : q_2 = q_4) (hr_r48 : r48 = (own_rm4_ret q_1 q_3 q_2 q_4)) (hc49 : r48 = (1 : Int32)) (hr_r51 : r51 = (own_rm4_ret q_3 q_1 q_4 q_2)) (hc52 : r51 = (1 : Int32)) (hr_r54 : r54 = (own_rm4_ret q_1 q_1 q_2 q_2)) : ¬ (r54 = 0) := by
  grind [own_rm4_ret]
set_option maxRecDepth 65536 in
set_option maxHeartbeats 4000000 in
theorem own_t0_3 (q_1 : Int64) (q_2 : Int64) (q_3 : Int64) (q_4 : Int64) (r61 : Int32) (hc42 : q_1 = q_3) (hc43 : ¬ (q_2 = q_4)) (hr_r61 : r61 = (own_rm4_ret q_1 q_3 q_2 q_4)) : r61 = (0 : Int32) := by
  grind [own_rm4_ret]
set_option maxRecDepth 65536 in
set_option maxHeartbeats 4000000 in
theorem own_t0_4 (q_1 : Int64) (q_2 : Int64) (q_3 : Int64) (q_4 : Int64) (r61 : Int32) (r64 : Int32) (hc42 : q_1 = q_3) (hc43 : ¬ (q_2 = q_4)) (hr_r61 : r61 = (own_rm4_ret q_1 q_3 q_2 q_4)) (hc62 : r61 = (0 : Int32)) (hr_r64 : r64 = (own_rm4_ret q_3 q_1 q_4 q_2)) : r64 = (0 : Int32) := by
  grind [own_rm4_ret]
set_option maxRecDepth 65536 in
set_option maxHeartbeats 4000000 in
theorem own_t0_5 (q_1 : Int64) (q_2 : Int64) (q_3 : Int64) (q_4 : Int64) (r61 : Int32) (r64 : Int32) (r67 : Int32) (hc42 : q_1 = q_3) (hc43 : ¬ (q_2 = q_4)) (hr_r61 : r61 = (own_rm4_ret q_1 q_3 q_2 q_4)) (hc62 : r61 = (0 : Int32)) (hr_r64 : r64 = (own_rm4_ret q_3 q_1 q_4 q_2)) (hc65 : r64 = (0 : Int32)) (hr_r67 : r67 = (own_rm4_ret q_1 q_1 q_2 q_2)) : ¬ (r67 = 0) := by
  grind [own_rm4_ret]
set_option maxRecDepth 65536 in
set_option maxHeartbeats 4000000 in
theorem own_t0_6 (q_1 : Int64) (q_2 : Int64) (q_3 : Int64) (q_4 : Int64) (r74 : Int32) (hc42 : ¬ (q_1 = q_3)) (hr_r74 : r74 = (own_rm4_ret q_1 q_3 q_2 q_4)) : r74 = (0 : Int32) := by
  grind [own_rm4_ret]
set_option maxRecDepth 65536 in
set_option maxHeartbeats 4000000 in
theorem own_t0_7 (q_1 : Int64) (q_2 : Int64) (q_3 : Int64) (q_4 : Int64) (r74 : Int32) (r77 : Int32) (hc42 : ¬ (q_1 = q_3)) (hr_r74 : r74 = (own_rm4_ret q_1 q_3 q_2 q_4)) (hc75 : r74 = (0 : Int32)) (hr_r77 : r77 = (own_rm4_ret q_3 q_1 q_4 q_2)) : r77 = (0 : Int32) := by
  grind [own_rm4_ret]
set_option maxRecDepth 65536 in
set_option maxHeartbeats 4000000 in
theorem own_t0_8 (q_1 : Int64) (q_2 : Int64) (q_3 : Int64) (q_4 : Int64) (r74 : Int32) (r77 : Int32) (r80 : Int32) (hc42 : ¬ (q_1 = q_3)) (hr_r74 : r74 = (own_rm4_ret q_1 q_3 q_2 q_4)) (hc75 : r74 = (0 : Int32)) (hr_r77 : r77 = (own_rm4_ret q_3 q_1 q_4 q_2)) (hc78 : r77 = (0 : Int32)) (hr_r80 : r80 = (own_rm4_ret q_1 q_1 q_2 q_2)) : ¬ (r80 = 0) := by
  grind [own_rm4_ret]
set_option maxRecDepth 65536 in
set_option maxHeartbeats 4000000 in
theorem own_t0_9 (q_1 : Int64) (q_2 : Int64) (q_3 : Int64) (r127 : Int32) (hc121 : q_1 = q_3) (hr_r127 : r127 = (own_rm4_ret q_1 q_3 q_2 q_2)) : r127 = (1 : Int32) := by
  grind [own_rm4_ret]
set_option maxRecDepth 65536 in
set_option maxHeartbeats 4000000 in
theorem own_t0_10 (q_1 : Int64) (q_2 : Int64) (q_3 : Int64) (r127 : Int32) (r130 : Int32) (hc121 : q_1 = q_3) (hr_r127 : r127 = (own_rm4_ret q_1 q_3 q_2 q_2)) (hc128 : r127 = (1 : Int32)) (hr_r130 : r130 = (own_rm4_ret q_3 q_1 q_2 q_2)) : r130 = (1 : Int32) := by
  grind [own_rm4_ret]
set_option maxRecDepth 65536 in
set_option maxHeartbeats 4000000 in
theorem own_t0_11 (q_1 : Int64) (q_2 : Int64) (q_3 : Int64) (r127 : Int32) (r130 : Int32) (r133 : Int32) (hc121 : q_1 = q_3) (hr_r127 : r127 = (own_rm4_ret q_1 q_3 q_2 q_2)) (hc128 : r127 = (1 : Int32)) (hr_r130 : r130 = (own_rm4_ret q_3 q_1 q_2 q_2)) (hc131 : r130 = (1 : Int32)) (hr_r133 : r133 = (own_rm4_ret q_1 q_1 q_2 q_2)) : ¬ (r133 = 0) := by
  grind [own_rm4_ret]
set_option maxRecDepth 65536 in
set_option maxHeartbeats 4000000 in
theorem own_t0_12 (q_1 : Int64) (q_2 : Int64) (q_3 : Int64) (r140 : Int32) (hc121 : ¬ (q_1 = q_3)) (hr_r140 : r140 = (own_rm4_ret q_1 q_3 q_2 q_2)) : r140 = (0 : Int32) := by
  grind [own_rm4_ret]
set_option maxRecDepth 65536 in
set_option maxHeartbeats 4000000 in
theorem own_t0_13 (q_1 : Int64) (q_2 : Int64) (q_3 : Int64) (r140 : Int32) (r143 : Int32) (hc121 : ¬ (q_1 = q_3)) (hr_r140 : r140 = (own_rm4_ret q_1 q_3 q_2 q_2)) (hc141 : r140 = (0 : Int32)) (hr_r143 : r143 = (own_rm4_ret q_3 q_1 q_2 q_2)) : r143 = (0 : Int32) := by
  grind [own_rm4_ret]
set_option maxRecDepth 65536 in
set_option maxHeartbeats 4000000 in
theorem own_t0_14 (q_1 : Int64) (q_2 : Int64) (q_3 : Int64) (r140 : Int32) (r143 : Int32) (r146 : Int32) (hc121 : ¬ (q_1 = q_3)) (hr_r140 : r140 = (own_rm4_ret q_1 q_3 q_2 q_2)) (hc141 : r140 = (0 : Int32)) (hr_r143 : r143 = (own_rm4_ret q_3 q_1 q_2 q_2)) (hc144 : r143 = (0 : Int32)) (hr_r146 : r146 = (own_rm4_ret q_1 q_1 q_2 q_2)) : ¬ (r146 = 0) := by
  grind [own_rm4_ret]
set_option maxRecDepth 65536 in
set_option maxHeartbeats 4000000 in
theorem own_t0_15 (q_1 : Int64) (q_2 : Int64) (q_4 : Int64) (r194 : Int32) (hc189 : q_2 = q_4) (hr_r194 : r194 = (own_rm4_ret q_1 q_1 q_2 q_4)) : r194 = (1 : Int32) := by
  grind [own_rm4_ret]
set_option maxRecDepth 65536 in
set_option maxHeartbeats 4000000 in
theorem own_t0_16 (q_1 : Int64) (q_2 : Int64) (q_4 : Int64) (r194 : Int32) (r197 : Int32) (hc189 : q_2 = q_4) (hr_r194 : r194 = (own_rm4_ret q_1 q_1 q_2 q_4)) (hc195 : r194 = (1 : Int32)) (hr_r197 : r197 = (own_rm4_ret q_1 q_1 q_4 q_2)) : r197 = (1 : Int32) := by
  grind [own_rm4_ret]
set_option maxRecDepth 65536 in
set_option maxHeartbeats 4000000 in
theorem own_t0_17 (q_1 : Int64) (q_2 : Int64) (q_4 : Int64) (r194 : Int32) (r197 : Int32) (r200 : Int32) (hc189 : q_2 = q_4) (hr_r194 : r194 = (own_rm4_ret q_1 q_1 q_2 q_4)) (hc195 : r194 = (1 : Int32)) (hr_r197 : r197 = (own_rm4_ret q_1 q_1 q_4 q_2)) (hc198 : r197 = (1 : Int32)) (hr_r200 : r200 = (own_rm4_ret q_1 q_1 q_2 q_2)) : ¬ (r200 = 0) := by
  grind [own_rm4_ret]
set_option maxRecDepth 65536 in
set_option maxHeartbeats 4000000 in
theorem own_t0_18 (q_1 : Int64) (q_2 : Int64) (q_4 : Int64) (r207 : Int32) (hc189 : ¬ (q_2 = q_4)) (hr_r207 : r207 = (own_rm4_ret q_1 q_1 q_2 q_4)) : r207 = (0 : Int32) := by
  grind [own_rm4_ret]
set_option maxRecDepth 65536 in
set_option maxHeartbeats 4000000 in
theorem own_t0_19 (q_1 : Int64) (q_2 : Int64) (q_4 : Int64) (r207 : Int32) (r210 : Int32) (hc189 : ¬ (q_2 = q_4)) (hr_r207 : r207 = (own_rm4_ret q_1 q_1 q_2 q_4)) (hc208 : r207 = (0 : Int32)) (hr_r210 : r210 = (own_rm4_ret q_1 q_1 q_4 q_2)) : r210 = (0 : Int32) := by
  grind [own_rm4_ret]
set_option maxRecDepth 65536 in
set_option maxHeartbeats 4000000 in
theorem own_t0_20 (q_1 : Int64) (q_2 : Int64) (q_4 : Int64) (r207 : Int32) (r210 : Int32) (r213 : Int32) (hc189 : ¬ (q_2 = q_4)) (hr_r207 : r207 = (own_rm4_ret q_1 q_1 q_2 q_4)) (hc208 : r207 = (0 : Int32)) (hr_r210 : r210 = (own_rm4_ret q_1 q_1 q_4 q_2)) (hc211 : r210 = (0 : Int32)) (hr_r213 : r213 = (own_rm4_ret q_1 q_1 q_2 q_2)) : ¬ (r213 = 0) := by
  grind [own_rm4_ret]
set_option maxRecDepth 65536 in
set_option maxHeartbeats 4000000 in
theorem own_t0_21 (q_1 : Int64) (q_2 : Int64) (r260 : Int32) (hr_r260 : r260 = (own_rm4_ret q_1 q_1 q_2 q_2)) : r260 = (1 : Int32) := by
  grind [own_rm4_ret]
set_option maxRecDepth 65536 in
set_option maxHeartbeats 4000000 in
theorem own_t0_22 (q_1 : Int64) (q_2 : Int64) (r260 : Int32) (r263 : Int32) (hr_r260 : r260 = (own_rm4_ret q_1 q_1 q_2 q_2)) (hc261 : r260 = (1 : Int32)) (hr_r263 : r263 = (own_rm4_ret q_1 q_1 q_2 q_2)) : r263 = (1 : Int32) := by
  grind [own_rm4_ret]
set_option maxRecDepth 65536 in
set_option maxHeartbeats 4000000 in
theorem own_t0_23 (q_1 : Int64) (q_2 : Int64) (r260 : Int32) (r263 : Int32) (r266 : Int32) (hr_r260 : r260 = (own_rm4_ret q_1 q_1 q_2 q_2)) (hc261 : r260 = (1 : Int32)) (hr_r263 : r263 = (own_rm4_ret q_1 q_1 q_2 q_2)) (hc264 : r263 = (1 : Int32)) (hr_r266 : r266 = (own_rm4_ret q_1 q_1 q_2 q_2)) : ¬ (r266 = 0) := by
  grind [own_rm4_ret]
def own_Q0 (Z : State) (q_1 : Int64) (q_2 : Int64) (q_3 : Int64) (q_4 : Int64) (p_5 : Int32) (wsc : Addr) (g_ : Nat → Value) (h0 : Heap) (n0 : Nat) (v : Option Value) (h : Heap) (L : List Loc) : Prop := v = some (.int (1 : Int32)) ∧ Fr n0 L
set_option maxRecDepth 65536 in
set_option maxHeartbeats 40000000 in
theorem own_rm0 (l : Launch) (Z : State) (a0 : Array Value) (hw : ∀ d ∈ tables_1, d.before a0 Z = true) (ws : List Jvm.Cond) (q_1 : Int64) (q_2 : Int64) (q_3 : Int64) (q_4 : Int64) (p_5 : Int32) (wsc : Addr) (g_ : Nat → Value) (h0 : Heap) (n0 : Nat) (Z0 : n0 ≤ h0.size) (pr_S_java_lang_Long_LongCache_cache : Sta Z h0 "java/lang/Long$LongCache" "cache" "[Ljava/lang/Long;" (.ref wsc)) (pr_A_wsc : own_AV Z h0 wsc (.object "java/lang/Long") (256 : Int32) g_) (hcache : ∀ i, i < (256 : Int32).toNatClampNeg → ∃ a, g_ i = .ref a ∧ Exa Z h0 a "java/lang/Long") :
    MetFree l x (head1 (Jvm.Cond.code x code maxLocals ret :: ws) room_1) (fun a U => a = #[(.long q_1), (.long q_2), (.long q_3), (.long q_4), (.int p_5)] ∧ Z.Warmed39 U.vm ∧ U.heap = h0) (fun _ _ _ _ _ => True) (fun _ U o U' => ∃ v L, o = .returned v ∧ own_Q0 Z q_1 q_2 q_3 q_4 p_5 wsc g_ h0 n0 v U'.heap L ∧ FrameEnd U o U' L 3 5) := by
  refine MetFree.of_bodySF (plainFor_of_name own_pn4) hisR ?_
  intro p e s m args below meth c s₁ Bd hml0 hP hK
  obtain ⟨rfl, hZ, hh⟩ := hP
  have hx := Bd.exec
  have hby := Bd.bytes
  have hml : c.maxLocals = 17 := hml0
  have hown : s.vm.findClass "com/example/epsilonet/epsilonet/service/OutcomeEqualsPinLaw" = some m.cls := findClass_of_methodNamed Bd.named
  have hnm := (name_of_methodNamed Bd.named Bd.method).1
  have X0 : Stand p l e room_1 s m #[(.long q_1), (.long q_2), (.long q_3), (.long q_4), (.int p_5)] below meth c s₁ [] 0 0 := Stand.of_body Bd
  have e0 : s₁.heap = h0 := by rw [← hh, Bd.state]; rfl
  have N0 := Fr.nil n0
  have z0 : n0 ≤ h0.size := Z0
  have z1 := own_lt pr_A_wsc.lt
  have K0 : Keep h0 h0 [] := Keep.refl h0 _
  show own_Go p.tables e below (fun t o => t.status = .running ∧ Ended t below o ∧ ∃ v L, o = .returned v ∧ own_Q0 Z q_1 q_2 q_3 q_4 p_5 wsc g_ h0 n0 v t.heap L ∧ FrameEnd s o t L 3 5) s₁ (entryFrame m #[(.long q_1), (.long q_2), (.long q_3), (.long q_4), (.int p_5)] maxLocals)
  rw [own_ef_own_rm0 m q_1 q_2 q_3 q_4 p_5]
  show own_Go _ _ _ _ s₁ (mkF m 0 #[.val (.long q_1), .second, .val (.long q_2), .second, .val (.long q_3), .second, .val (.long q_4), .second, .val (.int p_5), .unset, .unset, .unset, .unset, .unset, .unset, .unset, .unset] [])
  refine own_go (fun _ k => XS.iload X0.here hx rfl (hb hby at_0) rfl k) ?_
  show own_Go _ _ _ _ s₁ (mkF m 2 #[.val (.long q_1), .second, .val (.long q_2), .second, .val (.long q_3), .second, .val (.long q_4), .second, .val (.int p_5), .unset, .unset, .unset, .unset, .unset, .unset, .unset, .unset] [(.int p_5)])
  refine own_go (fun _ k => XS.iconst X0.here hx rfl (hb hby at_2) k) ?_
  show own_Go _ _ _ _ s₁ (mkF m 3 #[.val (.long q_1), .second, .val (.long q_2), .second, .val (.long q_3), .second, .val (.long q_4), .second, .val (.int p_5), .unset, .unset, .unset, .unset, .unset, .unset, .unset, .unset] [(.int (1 : Int32)), (.int p_5)])
  refine own_go (fun _ k => XS.iand X0.here hx rfl (hb hby at_3) rfl k) ?_
  show own_Go _ _ _ _ s₁ (mkF m 4 #[.val (.long q_1), .second, .val (.long q_2), .second, .val (.long q_3), .second, .val (.long q_4), .second, .val (.int p_5), .unset, .unset, .unset, .unset, .unset, .unset, .unset, .unset] [(.int (p_5 &&& (1 : Int32)))])
  by_cases hc2 : (p_5 &&& (1 : Int32)) = 0
  · refine own_go (fun _ k => XS.ifYes X0.here hx rfl (pc0 := 4) (pc' := 11) rfl (hb hby at_4) rfl (Jvm.Free.XT.i0_eq_t hc2) (by decide) (by decide) k) ?_
    show own_Go _ _ _ _ s₁ (mkF m 11 #[.val (.long q_1), .second, .val (.long q_2), .second, .val (.long q_3), .second, .val (.long q_4), .second, .val (.int p_5), .unset, .unset, .unset, .unset, .unset, .unset, .unset, .unset] [])
    refine own_go (fun _ k => XS.lload X0.here hx rfl (hb hby at_11) rfl k) ?_
    show own_Go _ _ _ _ s₁ (mkF m 13 #[.val (.long q_1), .second, .val (.long q_2), .second, .val (.long q_3), .second, .val (.long q_4), .second, .val (.int p_5), .unset, .unset, .unset, .unset, .unset, .unset, .unset, .unset] [(.long q_3)])
    refine own_go (fun _ k => XS.lstore X0.here hx rfl (hb hby at_13) rfl (l' := #[.val (.long q_1), .second, .val (.long q_2), .second, .val (.long q_3), .second, .val (.long q_4), .second, .val (.int p_5), .val (.long q_3), .second, .unset, .unset, .unset, .unset, .unset, .unset]) rfl k) ?_
    show own_Go _ _ _ _ s₁ (mkF m 15 #[.val (.long q_1), .second, .val (.long q_2), .second, .val (.long q_3), .second, .val (.long q_4), .second, .val (.int p_5), .val (.long q_3), .second, .unset, .unset, .unset, .unset, .unset, .unset] [])
    refine own_go (fun _ k => XS.iload X0.here hx rfl (hb hby at_15) rfl k) ?_
    show own_Go _ _ _ _ s₁ (mkF m 17 #[.val (.long q_1), .second, .val (.long q_2), .second, .val (.long q_3), .second, .val (.long q_4), .second, .val (.int p_5), .val (.long q_3), .second, .unset, .unset, .unset, .unset, .unset, .unset] [(.int p_5)])
    refine own_go (fun _ k => XS.iconst X0.here hx rfl (hb hby at_17) k) ?_
    show own_Go _ _ _ _ s₁ (mkF m 18 #[.val (.long q_1), .second, .val (.long q_2), .second, .val (.long q_3), .second, .val (.long q_4), .second, .val (.int p_5), .val (.long q_3), .second, .unset, .unset, .unset, .unset, .unset, .unset] [(.int (2 : Int32)), (.int p_5)])
    refine own_go (fun _ k => XS.iand X0.here hx rfl (hb hby at_18) rfl k) ?_
    show own_Go _ _ _ _ s₁ (mkF m 19 #[.val (.long q_1), .second, .val (.long q_2), .second, .val (.long q_3), .second, .val (.long q_4), .second, .val (.int p_5), .val (.long q_3), .second, .unset, .unset, .unset, .unset, .unset, .unset] [(.int (p_5 &&& (2 : Int32)))])
    by_cases hc3 : (p_5 &&& (2 : Int32)) = 0
    · refine own_go (fun _ k => XS.ifYes X0.here hx rfl (pc0 := 19) (pc' := 26) rfl (hb hby at_19) rfl (Jvm.Free.XT.i0_eq_t hc3) (by decide) (by decide) k) ?_
      show own_Go _ _ _ _ s₁ (mkF m 26 #[.val (.long q_1), .second, .val (.long q_2), .second, .val (.long q_3), .second, .val (.long q_4), .second, .val (.int p_5), .val (.long q_3), .second, .unset, .unset, .unset, .unset, .unset, .unset] [])
      refine own_go (fun _ k => XS.lload X0.here hx rfl (hb hby at_26) rfl k) ?_
      show own_Go _ _ _ _ s₁ (mkF m 28 #[.val (.long q_1), .second, .val (.long q_2), .second, .val (.long q_3), .second, .val (.long q_4), .second, .val (.int p_5), .val (.long q_3), .second, .unset, .unset, .unset, .unset, .unset, .unset] [(.long q_4)])
      refine own_go (fun _ k => XS.lstore X0.here hx rfl (hb hby at_28) rfl (l' := #[.val (.long q_1), .second, .val (.long q_2), .second, .val (.long q_3), .second, .val (.long q_4), .second, .val (.int p_5), .val (.long q_3), .second, .val (.long q_4), .second, .unset, .unset, .unset, .unset]) rfl k) ?_
      show own_Go _ _ _ _ s₁ (mkF m 30 #[.val (.long q_1), .second, .val (.long q_2), .second, .val (.long q_3), .second, .val (.long q_4), .second, .val (.int p_5), .val (.long q_3), .second, .val (.long q_4), .second, .unset, .unset, .unset, .unset] [])
      refine own_go (fun _ k => XS.iload X0.here hx rfl (hb hby at_30) rfl k) ?_
      show own_Go _ _ _ _ s₁ (mkF m 32 #[.val (.long q_1), .second, .val (.long q_2), .second, .val (.long q_3), .second, .val (.long q_4), .second, .val (.int p_5), .val (.long q_3), .second, .val (.long q_4), .second, .unset, .unset, .unset, .unset] [(.int p_5)])
      refine own_go (fun _ k => XS.iconst X0.here hx rfl (hb hby at_32) k) ?_
      show own_Go _ _ _ _ s₁ (mkF m 33 #[.val (.long q_1), .second, .val (.long q_2), .second, .val (.long q_3), .second, .val (.long q_4), .second, .val (.int p_5), .val (.long q_3), .second, .val (.long q_4), .second, .unset, .unset, .unset, .unset] [(.int (2 : Int32)), (.int p_5)])
      refine own_go (fun _ k => XS.iushr X0.here hx rfl (hb hby at_33) rfl k) ?_
      show own_Go _ _ _ _ s₁ (mkF m 34 #[.val (.long q_1), .second, .val (.long q_2), .second, .val (.long q_3), .second, .val (.long q_4), .second, .val (.int p_5), .val (.long q_3), .second, .val (.long q_4), .second, .unset, .unset, .unset, .unset] [(.int ((p_5.toUInt32 >>> ((2 : Int32) &&& 31).toUInt32).toInt32))])
      refine own_go (fun _ k => XS.iconst X0.here hx rfl (hb hby at_34) k) ?_
      show own_Go _ _ _ _ s₁ (mkF m 35 #[.val (.long q_1), .second, .val (.long q_2), .second, .val (.long q_3), .second, .val (.long q_4), .second, .val (.int p_5), .val (.long q_3), .second, .val (.long q_4), .second, .unset, .unset, .unset, .unset] [(.int (3 : Int32)), (.int ((p_5.toUInt32 >>> ((2 : Int32) &&& 31).toUInt32).toInt32))])
      refine own_go (fun _ k => XS.iand X0.here hx rfl (hb hby at_35) rfl k) ?_
      show own_Go _ _ _ _ s₁ (mkF m 36 #[.val (.long q_1), .second, .val (.long q_2), .second, .val (.long q_3), .second, .val (.long q_4), .second, .val (.int p_5), .val (.long q_3), .second, .val (.long q_4), .second, .unset, .unset, .unset, .unset] [(.int (((p_5.toUInt32 >>> ((2 : Int32) &&& 31).toUInt32).toInt32) &&& (3 : Int32)))])
      refine own_go (fun _ k => XS.istore X0.here hx rfl (hb hby at_36) rfl (l' := #[.val (.long q_1), .second, .val (.long q_2), .second, .val (.long q_3), .second, .val (.long q_4), .second, .val (.int p_5), .val (.long q_3), .second, .val (.long q_4), .second, .val (.int (((p_5.toUInt32 >>> ((2 : Int32) &&& 31).toUInt32).toInt32) &&& (3 : Int32))), .unset, .unset, .unset]) rfl k) ?_
      show own_Go _ _ _ _ s₁ (mkF m 38 #[.val (.long q_1), .second, .val (.long q_2), .second, .val (.long q_3), .second, .val (.long q_4), .second, .val (.int p_5), .val (.long q_3), .second, .val (.long q_4), .second, .val (.int (((p_5.toUInt32 >>> ((2 : Int32) &&& 31).toUInt32).toInt32) &&& (3 : Int32))), .unset, .unset, .unset] [])
      generalize hdv4 : (((p_5.toUInt32 >>> ((2 : Int32) &&& 31).toUInt32).toInt32) &&& (3 : Int32)) = v4
      show own_Go _ _ _ _ s₁ (mkF m 38 #[.val (.long q_1), .second, .val (.long q_2), .second, .val (.long q_3), .second, .val (.long q_4), .second, .val (.int p_5), .val (.long q_3), .second, .val (.long q_4), .second, .val (.int v4), .unset, .unset, .unset] [])
      obtain ⟨T5, h5, X5, e5, E5, A5, D5, Y5, st5⟩ := newO X0 hx hZ hown (hw _ (List.mem_of_getElem? (i := 0) rfl)) (hw _ (List.mem_of_getElem? (i := 1) rfl)) (hw _ (List.mem_of_getElem? (i := 2) rfl)) e0 (g := (mkF m 38 #[.val (.long q_1), .second, .val (.long q_2), .second, .val (.long q_3), .second, .val (.long q_4), .second, .val (.int p_5), .val (.long q_3), .second, .val (.long q_4), .second, .val (.int v4), .unset, .unset, .unset] [])) rfl (hb hby at_38) (by decide) (by decide)
      obtain ⟨b5, g5⟩ : ∃ z, z = h0.size := ⟨_, rfl⟩
      rw [← g5] at A5 D5 Y5 st5
      have z6 := E5.1
      have lt_b5 := own_lt A5.lt
      have K5 : Keep h0 h5 [] := K0.ext E5
      have F_observed_b5 : Fld Z h5 b5 "com/example/epsilonet/epsilonet/service/ObservationTree$Outcome" "observed" "J" (.long (0 : Int64)) := D5 (Or.inr (hw _ (List.mem_of_getElem? (i := 15) rfl))) (ty := .long) (by decide)
      have F_values_b5 : Fld Z h5 b5 "com/example/epsilonet/epsilonet/service/ObservationTree$Outcome" "values" "J" (.long (0 : Int64)) := D5 (Or.inr (hw _ (List.mem_of_getElem? (i := 17) rfl))) (ty := .long) (by decide)
      refine own_go (fun _ k => st5 _ k) ?_
      show own_Go _ _ _ _ T5 (mkF m 41 #[.val (.long q_1), .second, .val (.long q_2), .second, .val (.long q_3), .second, .val (.long q_4), .second, .val (.int p_5), .val (.long q_3), .second, .val (.long q_4), .second, .val (.int v4), .unset, .unset, .unset] [(.ref b5)])
      refine own_go (fun _ k => XS.dup X5.here hx rfl (hb hby at_41) rfl rfl k) ?_
      show own_Go _ _ _ _ T5 (mkF m 42 #[.val (.long q_1), .second, .val (.long q_2), .second, .val (.long q_3), .second, .val (.long q_4), .second, .val (.int p_5), .val (.long q_3), .second, .val (.long q_4), .second, .val (.int v4), .unset, .unset, .unset] [(.ref b5), (.ref b5)])
      refine own_go (fun _ k => XS.lloadN X5.here hx rfl (hb hby at_42) rfl k) ?_
      show own_Go _ _ _ _ T5 (mkF m 43 #[.val (.long q_1), .second, .val (.long q_2), .second, .val (.long q_3), .second, .val (.long q_4), .second, .val (.int p_5), .val (.long q_3), .second, .val (.long q_4), .second, .val (.int v4), .unset, .unset, .unset] [(.long q_1), (.ref b5), (.ref b5)])
      refine own_go (fun _ k => XS.lloadN X5.here hx rfl (hb hby at_43) rfl k) ?_
      show own_Go _ _ _ _ T5 (mkF m 44 #[.val (.long q_1), .second, .val (.long q_2), .second, .val (.long q_3), .second, .val (.long q_4), .second, .val (.int p_5), .val (.long q_3), .second, .val (.long q_4), .second, .val (.int v4), .unset, .unset, .unset] [(.long q_2), (.long q_1), (.ref b5), (.ref b5)])
      obtain ⟨_, _, ⟨T7, L7, k7, n7⟩, -, X7, ⟨Lc7, hQ7, l7, y7, z7⟩, st7⟩ := X5.specialBack hx (y := (⟨"com/example/epsilonet/epsilonet/service/ObservationTree$Outcome", "<init>", "(JJ)V"⟩ : MethodName)) rfl hown (mvT hZ (hw _ (List.mem_of_getElem? (i := 3) rfl))) (mvT hZ (hw _ (List.mem_of_getElem? (i := 4) rfl))) (mvT hZ (hw _ (List.mem_of_getElem? (i := 5) rfl))) (by decide) (backOf (W := 1) (own_rm1 l Z a0 hw [] b5 q_1 q_2 (0 : Int64) (0 : Int64) h5 n0 (by omega) A5 F_observed_b5 F_values_b5 (by omega)) hZ (hw _ (List.mem_of_getElem? (i := 5) rfl)) (hw _ (List.mem_of_getElem? (i := 2) rfl)) (by decide) (by decide)) (g := (mkF m 44 #[.val (.long q_1), .second, .val (.long q_2), .second, .val (.long q_3), .second, .val (.long q_4), .second, .val (.int p_5), .val (.long q_3), .second, .val (.long q_4), .second, .val (.int v4), .unset, .unset, .unset] [(.long q_2), (.long q_1), (.ref b5), (.ref b5)])) rfl (by rw [hml]; rfl) (Steps.refl _) (a := b5) (argsL := [(.long q_1), (.long q_2)]) (rest := [(.ref b5)]) (lenOf own_pd2 rfl) rfl (by show 2 * 0 + _ ≤ _; exact Nat.le_of_eq rfl) (hb hby at_44) (fun _ _ => ⟨rfl, e5, (by decide : 1 + 0 ≤ _), (by decide : 2 + 0 ≤ _)⟩)
      dsimp only [Pt.U, Pt.locs, Pt.cells, Pt.slots] at X7 l7 y7 z7 st7 hQ7
      have y7 : k7 = 1 := y7
      have z7 : n7 = 2 := z7
      obtain ⟨rfl, N7q, K7q, f8, f9, f10⟩ := hQ7
      have N7 : Fr n0 L7 := by rw [l7]; exact Fr.app N0 N7q
      have z11 := K7q.1
      have K7 : Keep h0 T7.heap [] := K5.trans K7q (allS (Or.inr (by omega)) all0)
      have z12 := own_lt f8.lt
      have z13 := own_lt f9.lt
      have z14 := own_lt f10.lt
      refine own_go (fun _ k => st7.trans k) ?_
      show own_Go _ _ _ _ T7 (mkF m 47 #[.val (.long q_1), .second, .val (.long q_2), .second, .val (.long q_3), .second, .val (.long q_4), .second, .val (.int p_5), .val (.long q_3), .second, .val (.long q_4), .second, .val (.int v4), .unset, .unset, .unset] [(.ref b5)])
      refine own_go (fun _ k => XS.astore X7.here hx rfl (hb hby at_47) rfl rfl (l' := #[.val (.long q_1), .second, .val (.long q_2), .second, .val (.long q_3), .second, .val (.long q_4), .second, .val (.int p_5), .val (.long q_3), .second, .val (.long q_4), .second, .val (.int v4), .val (.ref b5), .unset, .unset]) rfl k) ?_
      show own_Go _ _ _ _ T7 (mkF m 49 #[.val (.long q_1), .second, .val (.long q_2), .second, .val (.long q_3), .second, .val (.long q_4), .second, .val (.int p_5), .val (.long q_3), .second, .val (.long q_4), .second, .val (.int v4), .val (.ref b5), .unset, .unset] [])
      obtain ⟨T15, h15, X15, e15, E15, A15, D15, Y15, st15⟩ := newO X7 hx hZ hown (hw _ (List.mem_of_getElem? (i := 0) rfl)) (hw _ (List.mem_of_getElem? (i := 1) rfl)) (hw _ (List.mem_of_getElem? (i := 2) rfl)) rfl (g := (mkF m 49 #[.val (.long q_1), .second, .val (.long q_2), .second, .val (.long q_3), .second, .val (.long q_4), .second, .val (.int p_5), .val (.long q_3), .second, .val (.long q_4), .second, .val (.int v4), .val (.ref b5), .unset, .unset] [])) rfl (hb hby at_49) (by rw [y7]; decide) (by rw [z7]; decide)
      obtain ⟨b15, g15⟩ : ∃ z, z = T7.heap.size := ⟨_, rfl⟩
      rw [← g15] at A15 D15 Y15 st15
      have z16 := E15.1
      have lt_b15 := own_lt A15.lt
      have K15 : Keep h0 h15 [] := K7.ext E15
      have F_observed_b15 : Fld Z h15 b15 "com/example/epsilonet/epsilonet/service/ObservationTree$Outcome" "observed" "J" (.long (0 : Int64)) := D15 (Or.inr (hw _ (List.mem_of_getElem? (i := 15) rfl))) (ty := .long) (by decide)
      have F_values_b15 : Fld Z h15 b15 "com/example/epsilonet/epsilonet/service/ObservationTree$Outcome" "values" "J" (.long (0 : Int64)) := D15 (Or.inr (hw _ (List.mem_of_getElem? (i := 17) rfl))) (ty := .long) (by decide)
      refine own_go (fun _ k => st15 _ k) ?_
      show own_Go _ _ _ _ T15 (mkF m 52 #[.val (.long q_1), .second, .val (.long q_2), .second, .val (.long q_3), .second, .val (.long q_4), .second, .val (.int p_5), .val (.long q_3), .second, .val (.long q_4), .second, .val (.int v4), .val (.ref b5), .unset, .unset] [(.ref b15)])
      refine own_go (fun _ k => XS.dup X15.here hx rfl (hb hby at_52) rfl rfl k) ?_
      show own_Go _ _ _ _ T15 (mkF m 53 #[.val (.long q_1), .second, .val (.long q_2), .second, .val (.long q_3), .second, .val (.long q_4), .second, .val (.int p_5), .val (.long q_3), .second, .val (.long q_4), .second, .val (.int v4), .val (.ref b5), .unset, .unset] [(.ref b15), (.ref b15)])
      refine own_go (fun _ k => XS.lload X15.here hx rfl (hb hby at_53) rfl k) ?_
      show own_Go _ _ _ _ T15 (mkF m 55 #[.val (.long q_1), .second, .val (.long q_2), .second, .val (.long q_3), .second, .val (.long q_4), .second, .val (.int p_5), .val (.long q_3), .second, .val (.long q_4), .second, .val (.int v4), .val (.ref b5), .unset, .unset] [(.long q_3), (.ref b15), (.ref b15)])
      refine own_go (fun _ k => XS.lload X15.here hx rfl (hb hby at_55) rfl k) ?_
      show own_Go _ _ _ _ T15 (mkF m 57 #[.val (.long q_1), .second, .val (.long q_2), .second, .val (.long q_3), .second, .val (.long q_4), .second, .val (.int p_5), .val (.long q_3), .second, .val (.long q_4), .second, .val (.int v4), .val (.ref b5), .unset, .unset] [(.long q_4), (.long q_3), (.ref b15), (.ref b15)])
      obtain ⟨_, _, ⟨T17, L17, k17, n17⟩, -, X17, ⟨Lc17, hQ17, l17, y17, z17⟩, st17⟩ := X15.specialBack hx (y := (⟨"com/example/epsilonet/epsilonet/service/ObservationTree$Outcome", "<init>", "(JJ)V"⟩ : MethodName)) rfl hown (mvT hZ (hw _ (List.mem_of_getElem? (i := 3) rfl))) (mvT hZ (hw _ (List.mem_of_getElem? (i := 4) rfl))) (mvT hZ (hw _ (List.mem_of_getElem? (i := 5) rfl))) (by decide) (backOf (W := 1) (own_rm1 l Z a0 hw [] b15 q_3 q_4 (0 : Int64) (0 : Int64) h15 n0 (by omega) A15 F_observed_b15 F_values_b15 (by omega)) hZ (hw _ (List.mem_of_getElem? (i := 5) rfl)) (hw _ (List.mem_of_getElem? (i := 2) rfl)) (by decide) (by decide)) (g := (mkF m 57 #[.val (.long q_1), .second, .val (.long q_2), .second, .val (.long q_3), .second, .val (.long q_4), .second, .val (.int p_5), .val (.long q_3), .second, .val (.long q_4), .second, .val (.int v4), .val (.ref b5), .unset, .unset] [(.long q_4), (.long q_3), (.ref b15), (.ref b15)])) rfl (by rw [hml]; rfl) (Steps.refl _) (a := b15) (argsL := [(.long q_3), (.long q_4)]) (rest := [(.ref b15)]) (lenOf own_pd2 rfl) rfl (by show 2 * 0 + _ ≤ _; exact Nat.le_of_eq rfl) (hb hby at_57) (fun _ _ => ⟨rfl, e15, (by show k7 + 1 + _ ≤ _; rw [y7]; decide), (by show n7 + 2 + _ ≤ _; rw [z7]; decide)⟩)
      dsimp only [Pt.U, Pt.locs, Pt.cells, Pt.slots] at X17 l17 y17 z17 st17 hQ17
      have y17 : k17 = 2 := own_addeq y17 (congrArg (fun q => q + 1) y7) rfl
      have z17 : n17 = 4 := own_addeq z17 (congrArg (fun q => q + 2) z7) rfl
      obtain ⟨rfl, N17q, K17q, f18, f19, f20⟩ := hQ17
      have N17 : Fr n0 L17 := by rw [l17]; exact Fr.app N7 N17q
      have z21 := K17q.1
      have K17 : Keep h0 T17.heap [] := K15.trans K17q (allS (Or.inr (by omega)) all0)
      have z22 := own_lt f18.lt
      have z23 := own_lt f19.lt
      have z24 := own_lt f20.lt
      refine own_go (fun _ k => st17.trans k) ?_
      show own_Go _ _ _ _ T17 (mkF m 60 #[.val (.long q_1), .second, .val (.long q_2), .second, .val (.long q_3), .second, .val (.long q_4), .second, .val (.int p_5), .val (.long q_3), .second, .val (.long q_4), .second, .val (.int v4), .val (.ref b5), .unset, .unset] [(.ref b15)])
      refine own_go (fun _ k => XS.astore X17.here hx rfl (hb hby at_60) rfl rfl (l' := #[.val (.long q_1), .second, .val (.long q_2), .second, .val (.long q_3), .second, .val (.long q_4), .second, .val (.int p_5), .val (.long q_3), .second, .val (.long q_4), .second, .val (.int v4), .val (.ref b5), .val (.ref b15), .unset]) rfl k) ?_
      show own_Go _ _ _ _ T17 (mkF m 62 #[.val (.long q_1), .second, .val (.long q_2), .second, .val (.long q_3), .second, .val (.long q_4), .second, .val (.int p_5), .val (.long q_3), .second, .val (.long q_4), .second, .val (.int v4), .val (.ref b5), .val (.ref b15), .unset] [])
      refine own_go (fun _ k => XS.iload X17.here hx rfl (hb hby at_62) rfl k) ?_
      show own_Go _ _ _ _ T17 (mkF m 64 #[.val (.long q_1), .second, .val (.long q_2), .second, .val (.long q_3), .second, .val (.long q_4), .second, .val (.int p_5), .val (.long q_3), .second, .val (.long q_4), .second, .val (.int v4), .val (.ref b5), .val (.ref b15), .unset] [(.int v4)])
      refine own_go (fun _ k => XS.iconst X17.here hx rfl (hb hby at_64) k) ?_
      show own_Go _ _ _ _ T17 (mkF m 65 #[.val (.long q_1), .second, .val (.long q_2), .second, .val (.long q_3), .second, .val (.long q_4), .second, .val (.int p_5), .val (.long q_3), .second, .val (.long q_4), .second, .val (.int v4), .val (.ref b5), .val (.ref b15), .unset] [(.int (1 : Int32)), (.int v4)])
      by_cases hc25 : v4 = (1 : Int32)
      · refine own_go (fun _ k => XS.icmpNo X17.here hx rfl (hb hby at_65) rfl (Jvm.Free.XT.ii_ne_f hc25) k) ?_
        show own_Go _ _ _ _ T17 (mkF m 68 #[.val (.long q_1), .second, .val (.long q_2), .second, .val (.long q_3), .second, .val (.long q_4), .second, .val (.int p_5), .val (.long q_3), .second, .val (.long q_4), .second, .val (.int v4), .val (.ref b5), .val (.ref b15), .unset] [])
        refine own_go (fun _ k => XS.aload X17.here hx rfl (hb hby at_68) rfl rfl k) ?_
        show own_Go _ _ _ _ T17 (mkF m 70 #[.val (.long q_1), .second, .val (.long q_2), .second, .val (.long q_3), .second, .val (.long q_4), .second, .val (.int p_5), .val (.long q_3), .second, .val (.long q_4), .second, .val (.int v4), .val (.ref b5), .val (.ref b15), .unset] [(.ref b5)])
        refine own_go (fun _ k => XS.aconstNull X17.here hx rfl (hb hby at_70) k) ?_
        show own_Go _ _ _ _ T17 (mkF m 71 #[.val (.long q_1), .second, .val (.long q_2), .second, .val (.long q_3), .second, .val (.long q_4), .second, .val (.int p_5), .val (.long q_3), .second, .val (.long q_4), .second, .val (.int v4), .val (.ref b5), .val (.ref b15), .unset] [.null, (.ref b5)])
        have f27 : Exa Z T17.heap b5 "com/example/epsilonet/epsilonet/service/ObservationTree$Outcome" := ((f8.ext E15).keep K17q)
        obtain ⟨cq26, kq26, q26a, q26b, q26c⟩ := isOf hZ rfl f27
        obtain ⟨_, _, ⟨T26, L26, k26, n26⟩, -, X26, ⟨Lc26, hQ26, l26, y26, z26⟩, st26⟩ := X17.virtualBack hx (y := (⟨"com/example/epsilonet/epsilonet/service/ObservationTree$Outcome", "equals", "(Ljava/lang/Object;)Z"⟩ : MethodName)) (z := (⟨"com/example/epsilonet/epsilonet/service/ObservationTree$Outcome", "equals", "(Ljava/lang/Object;)Z"⟩ : MethodName)) hown (mvT hZ (hw _ (List.mem_of_getElem? (i := 18) rfl))) (mvT hZ (hw _ (List.mem_of_getElem? (i := 19) rfl))) (notFace_of_selects (args := #[]) (mvT hZ (hw _ (List.mem_of_getElem? (i := 21) rfl)))) (mvT hZ (hw _ (List.mem_of_getElem? (i := 21) rfl))) (mvT hZ (hw _ (List.mem_of_getElem? (i := 20) rfl))) (by decide) (backOf (W := 0) (own_rm4n l Z a0 hw [] b5  T17.heap n0 (by omega) ) hZ (hw _ (List.mem_of_getElem? (i := 22) rfl)) (hw _ (List.mem_of_getElem? (i := 2) rfl)) (by decide) (by decide)) q26a q26c (g := (mkF m 71 #[.val (.long q_1), .second, .val (.long q_2), .second, .val (.long q_3), .second, .val (.long q_4), .second, .val (.int p_5), .val (.long q_3), .second, .val (.long q_4), .second, .val (.int v4), .val (.ref b5), .val (.ref b15), .unset] [.null, (.ref b5)])) rfl (by rw [hml]; rfl) (Steps.refl _) (argsL := [.null]) (rest := []) (lenOf own_pd3 rfl) rfl (by show 2 * 0 + _ ≤ _; exact Nat.le_of_eq rfl) (hb hby at_71) (fun _ _ => ⟨rfl, rfl, (by show k17 + _ ≤ _; rw [y17]; decide), (by show n17 + _ ≤ _; rw [z17]; decide)⟩)
        dsimp only [Pt.U, Pt.locs, Pt.cells, Pt.slots] at X26 l26 y26 z26 st26 hQ26
        have y26 : k26 = 2 := own_addeq y26 (congrArg (fun q => q) y17) rfl
        have z26 : n26 = 4 := own_addeq z26 (congrArg (fun q => q) z17) rfl
        obtain ⟨rfl, N26q, e26⟩ := hQ26
        have N26 : Fr n0 L26 := by rw [l26]; exact Fr.app N17 N26q
        refine own_go (fun _ k => st26.trans k) ?_
        show own_Go _ _ _ _ T26 (mkF m 74 #[.val (.long q_1), .second, .val (.long q_2), .second, .val (.long q_3), .second, .val (.long q_4), .second, .val (.int p_5), .val (.long q_3), .second, .val (.long q_4), .second, .val (.int v4), .val (.ref b5), .val (.ref b15), .unset] [(.int (0 : Int32))])
        have hc28 : (0 : Int32) = 0 := by decide
        refine own_go (fun _ k => XS.ifNo X26.here hx rfl (hb hby at_74) rfl (Jvm.Free.XT.i0_ne_f hc28) k) ?_
        show own_Go _ _ _ _ T26 (mkF m 77 #[.val (.long q_1), .second, .val (.long q_2), .second, .val (.long q_3), .second, .val (.long q_4), .second, .val (.int p_5), .val (.long q_3), .second, .val (.long q_4), .second, .val (.int v4), .val (.ref b5), .val (.ref b15), .unset] [])
        refine own_go (fun _ k => XS.iconst X26.here hx rfl (hb hby at_77) k) ?_
        show own_Go _ _ _ _ T26 (mkF m 78 #[.val (.long q_1), .second, .val (.long q_2), .second, .val (.long q_3), .second, .val (.long q_4), .second, .val (.int p_5), .val (.long q_3), .second, .val (.long q_4), .second, .val (.int v4), .val (.ref b5), .val (.ref b15), .unset] [(.int (1 : Int32))])
        refine own_go (fun _ k => XS.goto X26.here hx rfl (pc0 := 78) (pc' := 82) rfl (hb hby at_78) (by decide) (by decide) k) ?_
        show own_Go _ _ _ _ T26 (mkF m 82 #[.val (.long q_1), .second, .val (.long q_2), .second, .val (.long q_3), .second, .val (.long q_4), .second, .val (.int p_5), .val (.long q_3), .second, .val (.long q_4), .second, .val (.int v4), .val (.ref b5), .val (.ref b15), .unset] [(.int (1 : Int32))])
        obtain ⟨fs, hr, hrun, hended, hW, hsame⟩ := X26.leave (v := some (.int (1 : Int32))) (fun h => by rw [Bd.returns] at h; cases h)
        refine ⟨_, _, retOut X26 hx Bd.returns rfl (Or.inl ⟨rfl, Or.inr (Or.inl rfl), _, rfl⟩) (hb hby at_82) hr, hrun, hended, _, _, rfl, ?_, ⟨_, rfl⟩, hW, hsame.mono (by rw [y26]; decide) (by rw [z26]; decide)⟩
        show own_Q0 Z q_1 q_2 q_3 q_4 p_5 wsc g_ h0 n0 _ T26.heap _
        rw [e26]
        exact ⟨rfl, N26⟩
      · refine own_go (fun _ k => XS.icmpYes X17.here hx rfl (pc0 := 65) (pc' := 83) rfl (hb hby at_65) rfl (Jvm.Free.XT.ii_ne_t hc25) (by decide) (by decide) k) ?_
        show own_Go _ _ _ _ T17 (mkF m 83 #[.val (.long q_1), .second, .val (.long q_2), .second, .val (.long q_3), .second, .val (.long q_4), .second, .val (.int p_5), .val (.long q_3), .second, .val (.long q_4), .second, .val (.int v4), .val (.ref b5), .val (.ref b15), .unset] [])
        refine own_go (fun _ k => XS.iload X17.here hx rfl (hb hby at_83) rfl k) ?_
        show own_Go _ _ _ _ T17 (mkF m 85 #[.val (.long q_1), .second, .val (.long q_2), .second, .val (.long q_3), .second, .val (.long q_4), .second, .val (.int p_5), .val (.long q_3), .second, .val (.long q_4), .second, .val (.int v4), .val (.ref b5), .val (.ref b15), .unset] [(.int v4)])
        refine own_go (fun _ k => XS.iconst X17.here hx rfl (hb hby at_85) k) ?_
        show own_Go _ _ _ _ T17 (mkF m 86 #[.val (.long q_1), .second, .val (.long q_2), .second, .val (.long q_3), .second, .val (.long q_4), .second, .val (.int p_5), .val (.long q_3), .second, .val (.long q_4), .second, .val (.int v4), .val (.ref b5), .val (.ref b15), .unset] [(.int (2 : Int32)), (.int v4)])
        by_cases hc30 : v4 = (2 : Int32)
        · refine own_go (fun _ k => XS.icmpNo X17.here hx rfl (hb hby at_86) rfl (Jvm.Free.XT.ii_ne_f hc30) k) ?_
          show own_Go _ _ _ _ T17 (mkF m 89 #[.val (.long q_1), .second, .val (.long q_2), .second, .val (.long q_3), .second, .val (.long q_4), .second, .val (.int p_5), .val (.long q_3), .second, .val (.long q_4), .second, .val (.int v4), .val (.ref b5), .val (.ref b15), .unset] [])
          refine own_go (fun _ k => XS.aload X17.here hx rfl (hb hby at_89) rfl rfl k) ?_
          show own_Go _ _ _ _ T17 (mkF m 91 #[.val (.long q_1), .second, .val (.long q_2), .second, .val (.long q_3), .second, .val (.long q_4), .second, .val (.int p_5), .val (.long q_3), .second, .val (.long q_4), .second, .val (.int v4), .val (.ref b5), .val (.ref b15), .unset] [(.ref b5)])
          refine own_go (fun _ k => XS.lloadN X17.here hx rfl (hb hby at_91) rfl k) ?_
          show own_Go _ _ _ _ T17 (mkF m 92 #[.val (.long q_1), .second, .val (.long q_2), .second, .val (.long q_3), .second, .val (.long q_4), .second, .val (.int p_5), .val (.long q_3), .second, .val (.long q_4), .second, .val (.int v4), .val (.ref b5), .val (.ref b15), .unset] [(.long q_1), (.ref b5)])
          have f31 : Sta Z T17.heap "java/lang/Long$LongCache" "cache" "[Ljava/lang/Long;" (.ref wsc) := (own_sta_keep ((own_sta_keep (pr_S_java_lang_Long_LongCache_cache.ext E5) K7q (allS (own_exa_plain A5) all0)).ext E15) K17q (allS (own_exa_plain A15) all0))
          have f32 : own_AV Z T17.heap wsc (.object "java/lang/Long") (256 : Int32) g_ := ((((pr_A_wsc.ext E5).keep K7q (ninS (own_ne (by omega)) nin0)).ext E15).keep K17q (ninS (own_ne (by omega)) nin0))
          obtain ⟨_, _, ⟨T33, L33, k33, n33⟩, -, X33, ⟨Lc33, hQ33, l33, y33, z33⟩, st33⟩ := Jvm.LawKit.callS X17 hx (y := (⟨"java/lang/Long", "valueOf", "(J)Ljava/lang/Long;"⟩ : MethodName)) hown (mvT hZ (hw _ (List.mem_of_getElem? (i := 25) rfl))) (mvT hZ (hw _ (List.mem_of_getElem? (i := 26) rfl))) (mvT hZ (hw _ (List.mem_of_getElem? (i := 27) rfl))) (mvT hZ (hw _ (List.mem_of_getElem? (i := 28) rfl))) (by decide) (backOf (W := 1) (own_rm5 l Z a0 hw [] q_1 wsc g_ T17.heap n0 (by omega) f31 f32 (fun i hi => by obtain ⟨a, e1, e2⟩ := hcache i hi; exact ⟨a, e1, e2.keep K17⟩)) hZ (hw _ (List.mem_of_getElem? (i := 28) rfl)) (hw _ (List.mem_of_getElem? (i := 27) rfl)) (by decide) (by decide)) (g := (mkF m 92 #[.val (.long q_1), .second, .val (.long q_2), .second, .val (.long q_3), .second, .val (.long q_4), .second, .val (.int p_5), .val (.long q_3), .second, .val (.long q_4), .second, .val (.int v4), .val (.ref b5), .val (.ref b15), .unset] [(.long q_1), (.ref b5)])) rfl (by rw [hml]; rfl) (argsL := [(.long q_1)]) (rest := [(.ref b5)]) (lenOf own_pd4 rfl) rfl (by show 2 * 0 + _ ≤ _; exact Nat.le_of_eq rfl) (hb hby at_92) (fun _ _ => ⟨rfl, rfl, (by show k17 + _ ≤ _; rw [y17]; decide), (by show n17 + _ ≤ _; rw [z17]; decide)⟩)
          dsimp only [Pt.U, Pt.locs, Pt.cells, Pt.slots] at X33 l33 y33 z33 st33 hQ33
          have y33 : k33 = 3 := own_addeq y33 (congrArg (fun q => q) y17) rfl
          have z33 : n33 = 5 := own_addeq z33 (congrArg (fun q => q) z17) rfl
          obtain ⟨b34, rfl, N33q, K33q, f35⟩ := hQ33
          have N33 : Fr n0 L33 := by rw [l33]; exact Fr.app N17 N33q
          have z36 := K33q.1
          have K33 : Keep h0 T33.heap [] := K17.trans K33q all0
          have z37 := own_lt f35.lt
          refine own_go (fun _ k => st33 _ k) ?_
          show own_Go _ _ _ _ T33 (mkF m 95 #[.val (.long q_1), .second, .val (.long q_2), .second, .val (.long q_3), .second, .val (.long q_4), .second, .val (.int p_5), .val (.long q_3), .second, .val (.long q_4), .second, .val (.int v4), .val (.ref b5), .val (.ref b15), .unset] [(.ref b34), (.ref b5)])
          have f39 : Exa Z T33.heap b5 "com/example/epsilonet/epsilonet/service/ObservationTree$Outcome" := (((f8.ext E15).keep K17q).keep K33q)
          obtain ⟨cq38, kq38, q38a, q38b, q38c⟩ := isOf hZ rfl f39
          obtain ⟨_, _, ⟨T38, L38, k38, n38⟩, -, X38, ⟨Lc38, hQ38, l38, y38, z38⟩, st38⟩ := X33.virtualBack hx (y := (⟨"com/example/epsilonet/epsilonet/service/ObservationTree$Outcome", "equals", "(Ljava/lang/Object;)Z"⟩ : MethodName)) (z := (⟨"com/example/epsilonet/epsilonet/service/ObservationTree$Outcome", "equals", "(Ljava/lang/Object;)Z"⟩ : MethodName)) hown (mvT hZ (hw _ (List.mem_of_getElem? (i := 18) rfl))) (mvT hZ (hw _ (List.mem_of_getElem? (i := 19) rfl))) (notFace_of_selects (args := #[]) (mvT hZ (hw _ (List.mem_of_getElem? (i := 21) rfl)))) (mvT hZ (hw _ (List.mem_of_getElem? (i := 21) rfl))) (mvT hZ (hw _ (List.mem_of_getElem? (i := 20) rfl))) (by decide) (backOf (W := 0) (own_rm4l l Z a0 hw [] b5 b34  T33.heap n0 (by omega) f35) hZ (hw _ (List.mem_of_getElem? (i := 22) rfl)) (hw _ (List.mem_of_getElem? (i := 2) rfl)) (by decide) (by decide)) q38a q38c (g := (mkF m 95 #[.val (.long q_1), .second, .val (.long q_2), .second, .val (.long q_3), .second, .val (.long q_4), .second, .val (.int p_5), .val (.long q_3), .second, .val (.long q_4), .second, .val (.int v4), .val (.ref b5), .val (.ref b15), .unset] [(.ref b34), (.ref b5)])) rfl (by rw [hml]; rfl) (Steps.refl _) (argsL := [(.ref b34)]) (rest := []) (lenOf own_pd3 rfl) rfl (by show 2 * 0 + _ ≤ _; exact Nat.le_of_eq rfl) (hb hby at_95) (fun _ _ => ⟨rfl, rfl, (by show k33 + _ ≤ _; rw [y33]; decide), (by show n33 + _ ≤ _; rw [z33]; decide)⟩)
          dsimp only [Pt.U, Pt.locs, Pt.cells, Pt.slots] at X38 l38 y38 z38 st38 hQ38
          have y38 : k38 = 3 := own_addeq y38 (congrArg (fun q => q) y33) rfl
          have z38 : n38 = 5 := own_addeq z38 (congrArg (fun q => q) z33) rfl
          obtain ⟨rfl, N38q, e38⟩ := hQ38
          have N38 : Fr n0 L38 := by rw [l38]; exact Fr.app N33 N38q
          refine own_go (fun _ k => st38.trans k) ?_
          show own_Go _ _ _ _ T38 (mkF m 98 #[.val (.long q_1), .second, .val (.long q_2), .second, .val (.long q_3), .second, .val (.long q_4), .second, .val (.int p_5), .val (.long q_3), .second, .val (.long q_4), .second, .val (.int v4), .val (.ref b5), .val (.ref b15), .unset] [(.int (0 : Int32))])
          have hc40 : (0 : Int32) = 0 := by decide
          refine own_go (fun _ k => XS.ifNo X38.here hx rfl (hb hby at_98) rfl (Jvm.Free.XT.i0_ne_f hc40) k) ?_
          show own_Go _ _ _ _ T38 (mkF m 101 #[.val (.long q_1), .second, .val (.long q_2), .second, .val (.long q_3), .second, .val (.long q_4), .second, .val (.int p_5), .val (.long q_3), .second, .val (.long q_4), .second, .val (.int v4), .val (.ref b5), .val (.ref b15), .unset] [])
          refine own_go (fun _ k => XS.iconst X38.here hx rfl (hb hby at_101) k) ?_
          show own_Go _ _ _ _ T38 (mkF m 102 #[.val (.long q_1), .second, .val (.long q_2), .second, .val (.long q_3), .second, .val (.long q_4), .second, .val (.int p_5), .val (.long q_3), .second, .val (.long q_4), .second, .val (.int v4), .val (.ref b5), .val (.ref b15), .unset] [(.int (1 : Int32))])
          refine own_go (fun _ k => XS.goto X38.here hx rfl (pc0 := 102) (pc' := 106) rfl (hb hby at_102) (by decide) (by decide) k) ?_
          show own_Go _ _ _ _ T38 (mkF m 106 #[.val (.long q_1), .second, .val (.long q_2), .second, .val (.long q_3), .second, .val (.long q_4), .second, .val (.int p_5), .val (.long q_3), .second, .val (.long q_4), .second, .val (.int v4), .val (.ref b5), .val (.ref b15), .unset] [(.int (1 : Int32))])
          obtain ⟨fs, hr, hrun, hended, hW, hsame⟩ := X38.leave (v := some (.int (1 : Int32))) (fun h => by rw [Bd.returns] at h; cases h)
          refine ⟨_, _, retOut X38 hx Bd.returns rfl (Or.inl ⟨rfl, Or.inr (Or.inl rfl), _, rfl⟩) (hb hby at_106) hr, hrun, hended, _, _, rfl, ?_, ⟨_, rfl⟩, hW, hsame.mono (by rw [y38]; decide) (by rw [z38]; decide)⟩
          show own_Q0 Z q_1 q_2 q_3 q_4 p_5 wsc g_ h0 n0 _ T38.heap _
          rw [e38]
          exact ⟨rfl, N38⟩
        · refine own_go (fun _ k => XS.icmpYes X17.here hx rfl (pc0 := 86) (pc' := 107) rfl (hb hby at_86) rfl (Jvm.Free.XT.ii_ne_t hc30) (by decide) (by decide) k) ?_
          show own_Go _ _ _ _ T17 (mkF m 107 #[.val (.long q_1), .second, .val (.long q_2), .second, .val (.long q_3), .second, .val (.long q_4), .second, .val (.int p_5), .val (.long q_3), .second, .val (.long q_4), .second, .val (.int v4), .val (.ref b5), .val (.ref b15), .unset] [])
          refine own_go (fun _ k => XS.lloadN X17.here hx rfl (hb hby at_107) rfl k) ?_
          show own_Go _ _ _ _ T17 (mkF m 108 #[.val (.long q_1), .second, .val (.long q_2), .second, .val (.long q_3), .second, .val (.long q_4), .second, .val (.int p_5), .val (.long q_3), .second, .val (.long q_4), .second, .val (.int v4), .val (.ref b5), .val (.ref b15), .unset] [(.long q_1)])
          refine own_go (fun _ k => XS.lload X17.here hx rfl (hb hby at_108) rfl k) ?_
          show own_Go _ _ _ _ T17 (mkF m 110 #[.val (.long q_1), .second, .val (.long q_2), .second, .val (.long q_3), .second, .val (.long q_4), .second, .val (.int p_5), .val (.long q_3), .second, .val (.long q_4), .second, .val (.int v4), .val (.ref b5), .val (.ref b15), .unset] [(.long q_3), (.long q_1)])
          refine own_go (fun _ k => XS.lcmp X17.here hx rfl (hb hby at_110) rfl k) ?_
          show own_Go _ _ _ _ T17 (mkF m 111 #[.val (.long q_1), .second, .val (.long q_2), .second, .val (.long q_3), .second, .val (.long q_4), .second, .val (.int p_5), .val (.long q_3), .second, .val (.long q_4), .second, .val (.int v4), .val (.ref b5), .val (.ref b15), .unset] [(.int (lcmpW q_1 q_3))])
          by_cases hc42 : q_1 = q_3
          · refine own_go (fun _ k => XS.ifNo X17.here hx rfl (hb hby at_111) rfl (Jvm.Free.XT.ll_ne_f hc42) k) ?_
            show own_Go _ _ _ _ T17 (mkF m 114 #[.val (.long q_1), .second, .val (.long q_2), .second, .val (.long q_3), .second, .val (.long q_4), .second, .val (.int p_5), .val (.long q_3), .second, .val (.long q_4), .second, .val (.int v4), .val (.ref b5), .val (.ref b15), .unset] [])
            refine own_go (fun _ k => XS.lloadN X17.here hx rfl (hb hby at_114) rfl k) ?_
            show own_Go _ _ _ _ T17 (mkF m 115 #[.val (.long q_1), .second, .val (.long q_2), .second, .val (.long q_3), .second, .val (.long q_4), .second, .val (.int p_5), .val (.long q_3), .second, .val (.long q_4), .second, .val (.int v4), .val (.ref b5), .val (.ref b15), .unset] [(.long q_2)])
            refine own_go (fun _ k => XS.lload X17.here hx rfl (hb hby at_115) rfl k) ?_
            show own_Go _ _ _ _ T17 (mkF m 117 #[.val (.long q_1), .second, .val (.long q_2), .second, .val (.long q_3), .second, .val (.long q_4), .second, .val (.int p_5), .val (.long q_3), .second, .val (.long q_4), .second, .val (.int v4), .val (.ref b5), .val (.ref b15), .unset] [(.long q_4), (.long q_2)])
            refine own_go (fun _ k => XS.lcmp X17.here hx rfl (hb hby at_117) rfl k) ?_
            show own_Go _ _ _ _ T17 (mkF m 118 #[.val (.long q_1), .second, .val (.long q_2), .second, .val (.long q_3), .second, .val (.long q_4), .second, .val (.int p_5), .val (.long q_3), .second, .val (.long q_4), .second, .val (.int v4), .val (.ref b5), .val (.ref b15), .unset] [(.int (lcmpW q_2 q_4))])
            by_cases hc43 : q_2 = q_4
            · refine own_go (fun _ k => XS.ifNo X17.here hx rfl (hb hby at_118) rfl (Jvm.Free.XT.ll_ne_f hc43) k) ?_
              show own_Go _ _ _ _ T17 (mkF m 121 #[.val (.long q_1), .second, .val (.long q_2), .second, .val (.long q_3), .second, .val (.long q_4), .second, .val (.int p_5), .val (.long q_3), .second, .val (.long q_4), .second, .val (.int v4), .val (.ref b5), .val (.ref b15), .unset] [])
              refine own_go (fun _ k => XS.iconst X17.here hx rfl (hb hby at_121) k) ?_
              show own_Go _ _ _ _ T17 (mkF m 122 #[.val (.long q_1), .second, .val (.long q_2), .second, .val (.long q_3), .second, .val (.long q_4), .second, .val (.int p_5), .val (.long q_3), .second, .val (.long q_4), .second, .val (.int v4), .val (.ref b5), .val (.ref b15), .unset] [(.int (1 : Int32))])
              refine own_go (fun _ k => XS.goto X17.here hx rfl (pc0 := 122) (pc' := 126) rfl (hb hby at_122) (by decide) (by decide) k) ?_
              show own_Go _ _ _ _ T17 (mkF m 126 #[.val (.long q_1), .second, .val (.long q_2), .second, .val (.long q_3), .second, .val (.long q_4), .second, .val (.int p_5), .val (.long q_3), .second, .val (.long q_4), .second, .val (.int v4), .val (.ref b5), .val (.ref b15), .unset] [(.int (1 : Int32))])
              refine own_go (fun _ k => XS.istore X17.here hx rfl (hb hby at_126) rfl (l' := #[.val (.long q_1), .second, .val (.long q_2), .second, .val (.long q_3), .second, .val (.long q_4), .second, .val (.int p_5), .val (.long q_3), .second, .val (.long q_4), .second, .val (.int v4), .val (.ref b5), .val (.ref b15), .val (.int (1 : Int32))]) rfl k) ?_
              show own_Go _ _ _ _ T17 (mkF m 128 #[.val (.long q_1), .second, .val (.long q_2), .second, .val (.long q_3), .second, .val (.long q_4), .second, .val (.int p_5), .val (.long q_3), .second, .val (.long q_4), .second, .val (.int v4), .val (.ref b5), .val (.ref b15), .val (.int (1 : Int32))] [])
              refine own_go (fun _ k => XS.aload X17.here hx rfl (hb hby at_128) rfl rfl k) ?_
              show own_Go _ _ _ _ T17 (mkF m 130 #[.val (.long q_1), .second, .val (.long q_2), .second, .val (.long q_3), .second, .val (.long q_4), .second, .val (.int p_5), .val (.long q_3), .second, .val (.long q_4), .second, .val (.int v4), .val (.ref b5), .val (.ref b15), .val (.int (1 : Int32))] [(.ref b5)])
              refine own_go (fun _ k => XS.aload X17.here hx rfl (hb hby at_130) rfl rfl k) ?_
              show own_Go _ _ _ _ T17 (mkF m 132 #[.val (.long q_1), .second, .val (.long q_2), .second, .val (.long q_3), .second, .val (.long q_4), .second, .val (.int p_5), .val (.long q_3), .second, .val (.long q_4), .second, .val (.int v4), .val (.ref b5), .val (.ref b15), .val (.int (1 : Int32))] [(.ref b15), (.ref b5)])
              have f44 : Fld Z T17.heap b5 "com/example/epsilonet/epsilonet/service/ObservationTree$Outcome" "observed" "J" (.long q_1) := ((f9.ext E15).keep K17q (ninS (own_ne (by omega)) nin0))
              have f45 : Fld Z T17.heap b5 "com/example/epsilonet/epsilonet/service/ObservationTree$Outcome" "values" "J" (.long q_2) := ((f10.ext E15).keep K17q (ninS (own_ne (by omega)) nin0))
              have f47 : Exa Z T17.heap b5 "com/example/epsilonet/epsilonet/service/ObservationTree$Outcome" := ((f8.ext E15).keep K17q)
              obtain ⟨cq46, kq46, q46a, q46b, q46c⟩ := isOf hZ rfl f47
              obtain ⟨_, _, ⟨T46, L46, k46, n46⟩, -, X46, ⟨Lc46, hQ46, l46, y46, z46⟩, st46⟩ := X17.virtualBack hx (y := (⟨"com/example/epsilonet/epsilonet/service/ObservationTree$Outcome", "equals", "(Ljava/lang/Object;)Z"⟩ : MethodName)) (z := (⟨"com/example/epsilonet/epsilonet/service/ObservationTree$Outcome", "equals", "(Ljava/lang/Object;)Z"⟩ : MethodName)) hown (mvT hZ (hw _ (List.mem_of_getElem? (i := 18) rfl))) (mvT hZ (hw _ (List.mem_of_getElem? (i := 19) rfl))) (notFace_of_selects (args := #[]) (mvT hZ (hw _ (List.mem_of_getElem? (i := 21) rfl)))) (mvT hZ (hw _ (List.mem_of_getElem? (i := 21) rfl))) (mvT hZ (hw _ (List.mem_of_getElem? (i := 20) rfl))) (by decide) (backOf (W := 0) (own_rm4 l Z a0 hw [] b5 b15 q_1 q_3 q_2 q_4 T17.heap n0 (by omega) f18 f44 f19 f45 f20) hZ (hw _ (List.mem_of_getElem? (i := 22) rfl)) (hw _ (List.mem_of_getElem? (i := 2) rfl)) (by decide) (by decide)) q46a q46c (g := (mkF m 132 #[.val (.long q_1), .second, .val (.long q_2), .second, .val (.long q_3), .second, .val (.long q_4), .second, .val (.int p_5), .val (.long q_3), .second, .val (.long q_4), .second, .val (.int v4), .val (.ref b5), .val (.ref b15), .val (.int (1 : Int32))] [(.ref b15), (.ref b5)])) rfl (by rw [hml]; rfl) (Steps.refl _) (argsL := [(.ref b15)]) (rest := []) (lenOf own_pd3 rfl) rfl (by show 2 * 0 + _ ≤ _; exact Nat.le_of_eq rfl) (hb hby at_132) (fun _ _ => ⟨rfl, rfl, (by show k17 + _ ≤ _; rw [y17]; decide), (by show n17 + _ ≤ _; rw [z17]; decide)⟩)
              dsimp only [Pt.U, Pt.locs, Pt.cells, Pt.slots] at X46 l46 y46 z46 st46 hQ46
              have y46 : k46 = 2 := own_addeq y46 (congrArg (fun q => q) y17) rfl
              have z46 : n46 = 4 := own_addeq z46 (congrArg (fun q => q) z17) rfl
              obtain ⟨r48, rfl, N46q, hr_r48, e46⟩ := hQ46
              have N46 : Fr n0 L46 := by rw [l46]; exact Fr.app N17 N46q
              refine own_go (fun _ k => st46.trans k) ?_
              show own_Go _ _ _ _ T46 (mkF m 135 #[.val (.long q_1), .second, .val (.long q_2), .second, .val (.long q_3), .second, .val (.long q_4), .second, .val (.int p_5), .val (.long q_3), .second, .val (.long q_4), .second, .val (.int v4), .val (.ref b5), .val (.ref b15), .val (.int (1 : Int32))] [(.int r48)])
              refine own_go (fun _ k => XS.iload X46.here hx rfl (hb hby at_135) rfl k) ?_
              show own_Go _ _ _ _ T46 (mkF m 137 #[.val (.long q_1), .second, .val (.long q_2), .second, .val (.long q_3), .second, .val (.long q_4), .second, .val (.int p_5), .val (.long q_3), .second, .val (.long q_4), .second, .val (.int v4), .val (.ref b5), .val (.ref b15), .val (.int (1 : Int32))] [(.int (1 : Int32)), (.int r48)])
              have hc49 : r48 = (1 : Int32) := own_t0_0 q_1 q_2 q_3 q_4 r48 hc42 hc43 hr_r48
              refine own_go (fun _ k => XS.icmpNo X46.here hx rfl (hb hby at_137) rfl (Jvm.Free.XT.ii_ne_f hc49) k) ?_
              show own_Go _ _ _ _ T46 (mkF m 140 #[.val (.long q_1), .second, .val (.long q_2), .second, .val (.long q_3), .second, .val (.long q_4), .second, .val (.int p_5), .val (.long q_3), .second, .val (.long q_4), .second, .val (.int v4), .val (.ref b5), .val (.ref b15), .val (.int (1 : Int32))] [])
              refine own_go (fun _ k => XS.aload X46.here hx rfl (hb hby at_140) rfl rfl k) ?_
              show own_Go _ _ _ _ T46 (mkF m 142 #[.val (.long q_1), .second, .val (.long q_2), .second, .val (.long q_3), .second, .val (.long q_4), .second, .val (.int p_5), .val (.long q_3), .second, .val (.long q_4), .second, .val (.int v4), .val (.ref b5), .val (.ref b15), .val (.int (1 : Int32))] [(.ref b15)])
              refine own_go (fun _ k => XS.aload X46.here hx rfl (hb hby at_142) rfl rfl k) ?_
              show own_Go _ _ _ _ T46 (mkF m 144 #[.val (.long q_1), .second, .val (.long q_2), .second, .val (.long q_3), .second, .val (.long q_4), .second, .val (.int p_5), .val (.long q_3), .second, .val (.long q_4), .second, .val (.int v4), .val (.ref b5), .val (.ref b15), .val (.int (1 : Int32))] [(.ref b5), (.ref b15)])
              obtain ⟨cq50, kq50, q50a, q50b, q50c⟩ := isOf hZ e46 f18
              obtain ⟨_, _, ⟨T50, L50, k50, n50⟩, -, X50, ⟨Lc50, hQ50, l50, y50, z50⟩, st50⟩ := X46.virtualBack hx (y := (⟨"com/example/epsilonet/epsilonet/service/ObservationTree$Outcome", "equals", "(Ljava/lang/Object;)Z"⟩ : MethodName)) (z := (⟨"com/example/epsilonet/epsilonet/service/ObservationTree$Outcome", "equals", "(Ljava/lang/Object;)Z"⟩ : MethodName)) hown (mvT hZ (hw _ (List.mem_of_getElem? (i := 18) rfl))) (mvT hZ (hw _ (List.mem_of_getElem? (i := 19) rfl))) (notFace_of_selects (args := #[]) (mvT hZ (hw _ (List.mem_of_getElem? (i := 21) rfl)))) (mvT hZ (hw _ (List.mem_of_getElem? (i := 21) rfl))) (mvT hZ (hw _ (List.mem_of_getElem? (i := 20) rfl))) (by decide) (backOf (W := 0) (own_rm4 l Z a0 hw [] b15 b5 q_3 q_1 q_4 q_2 T17.heap n0 (by omega) f47 f19 f44 f20 f45) hZ (hw _ (List.mem_of_getElem? (i := 22) rfl)) (hw _ (List.mem_of_getElem? (i := 2) rfl)) (by decide) (by decide)) q50a q50c (g := (mkF m 144 #[.val (.long q_1), .second, .val (.long q_2), .second, .val (.long q_3), .second, .val (.long q_4), .second, .val (.int p_5), .val (.long q_3), .second, .val (.long q_4), .second, .val (.int v4), .val (.ref b5), .val (.ref b15), .val (.int (1 : Int32))] [(.ref b5), (.ref b15)])) rfl (by rw [hml]; rfl) (Steps.refl _) (argsL := [(.ref b5)]) (rest := []) (lenOf own_pd3 rfl) rfl (by show 2 * 0 + _ ≤ _; exact Nat.le_of_eq rfl) (hb hby at_144) (fun _ _ => ⟨rfl, e46, (by show k46 + _ ≤ _; rw [y46]; decide), (by show n46 + _ ≤ _; rw [z46]; decide)⟩)
              dsimp only [Pt.U, Pt.locs, Pt.cells, Pt.slots] at X50 l50 y50 z50 st50 hQ50
              have y50 : k50 = 2 := own_addeq y50 (congrArg (fun q => q) y46) rfl
              have z50 : n50 = 4 := own_addeq z50 (congrArg (fun q => q) z46) rfl
              obtain ⟨r51, rfl, N50q, hr_r51, e50⟩ := hQ50
              have N50 : Fr n0 L50 := by rw [l50]; exact Fr.app N46 N50q
              refine own_go (fun _ k => st50.trans k) ?_
              show own_Go _ _ _ _ T50 (mkF m 147 #[.val (.long q_1), .second, .val (.long q_2), .second, .val (.long q_3), .second, .val (.long q_4), .second, .val (.int p_5), .val (.long q_3), .second, .val (.long q_4), .second, .val (.int v4), .val (.ref b5), .val (.ref b15), .val (.int (1 : Int32))] [(.int r51)])
              refine own_go (fun _ k => XS.iload X50.here hx rfl (hb hby at_147) rfl k) ?_
              show own_Go _ _ _ _ T50 (mkF m 149 #[.val (.long q_1), .second, .val (.long q_2), .second, .val (.long q_3), .second, .val (.long q_4), .second, .val (.int p_5), .val (.long q_3), .second, .val (.long q_4), .second, .val (.int v4), .val (.ref b5), .val (.ref b15), .val (.int (1 : Int32))] [(.int (1 : Int32)), (.int r51)])
              have hc52 : r51 = (1 : Int32) := own_t0_1 q_1 q_2 q_3 q_4 r48 r51 hc42 hc43 hr_r48 hc49 hr_r51
              refine own_go (fun _ k => XS.icmpNo X50.here hx rfl (hb hby at_149) rfl (Jvm.Free.XT.ii_ne_f hc52) k) ?_
              show own_Go _ _ _ _ T50 (mkF m 152 #[.val (.long q_1), .second, .val (.long q_2), .second, .val (.long q_3), .second, .val (.long q_4), .second, .val (.int p_5), .val (.long q_3), .second, .val (.long q_4), .second, .val (.int v4), .val (.ref b5), .val (.ref b15), .val (.int (1 : Int32))] [])
              refine own_go (fun _ k => XS.aload X50.here hx rfl (hb hby at_152) rfl rfl k) ?_
              show own_Go _ _ _ _ T50 (mkF m 154 #[.val (.long q_1), .second, .val (.long q_2), .second, .val (.long q_3), .second, .val (.long q_4), .second, .val (.int p_5), .val (.long q_3), .second, .val (.long q_4), .second, .val (.int v4), .val (.ref b5), .val (.ref b15), .val (.int (1 : Int32))] [(.ref b5)])
              refine own_go (fun _ k => XS.aload X50.here hx rfl (hb hby at_154) rfl rfl k) ?_
              show own_Go _ _ _ _ T50 (mkF m 156 #[.val (.long q_1), .second, .val (.long q_2), .second, .val (.long q_3), .second, .val (.long q_4), .second, .val (.int p_5), .val (.long q_3), .second, .val (.long q_4), .second, .val (.int v4), .val (.ref b5), .val (.ref b15), .val (.int (1 : Int32))] [(.ref b5), (.ref b5)])
              obtain ⟨cq53, kq53, q53a, q53b, q53c⟩ := isOf hZ e50 f47
              obtain ⟨_, _, ⟨T53, L53, k53, n53⟩, -, X53, ⟨Lc53, hQ53, l53, y53, z53⟩, st53⟩ := X50.virtualBack hx (y := (⟨"com/example/epsilonet/epsilonet/service/ObservationTree$Outcome", "equals", "(Ljava/lang/Object;)Z"⟩ : MethodName)) (z := (⟨"com/example/epsilonet/epsilonet/service/ObservationTree$Outcome", "equals", "(Ljava/lang/Object;)Z"⟩ : MethodName)) hown (mvT hZ (hw _ (List.mem_of_getElem? (i := 18) rfl))) (mvT hZ (hw _ (List.mem_of_getElem? (i := 19) rfl))) (notFace_of_selects (args := #[]) (mvT hZ (hw _ (List.mem_of_getElem? (i := 21) rfl)))) (mvT hZ (hw _ (List.mem_of_getElem? (i := 21) rfl))) (mvT hZ (hw _ (List.mem_of_getElem? (i := 20) rfl))) (by decide) (backOf (W := 0) (own_rm4 l Z a0 hw [] b5 b5 q_1 q_1 q_2 q_2 T17.heap n0 (by omega) f47 f44 f44 f45 f45) hZ (hw _ (List.mem_of_getElem? (i := 22) rfl)) (hw _ (List.mem_of_getElem? (i := 2) rfl)) (by decide) (by decide)) q53a q53c (g := (mkF m 156 #[.val (.long q_1), .second, .val (.long q_2), .second, .val (.long q_3), .second, .val (.long q_4), .second, .val (.int p_5), .val (.long q_3), .second, .val (.long q_4), .second, .val (.int v4), .val (.ref b5), .val (.ref b15), .val (.int (1 : Int32))] [(.ref b5), (.ref b5)])) rfl (by rw [hml]; rfl) (Steps.refl _) (argsL := [(.ref b5)]) (rest := []) (lenOf own_pd3 rfl) rfl (by show 2 * 0 + _ ≤ _; exact Nat.le_of_eq rfl) (hb hby at_156) (fun _ _ => ⟨rfl, e50, (by show k50 + _ ≤ _; rw [y50]; decide), (by show n50 + _ ≤ _; rw [z50]; decide)⟩)
              dsimp only [Pt.U, Pt.locs, Pt.cells, Pt.slots] at X53 l53 y53 z53 st53 hQ53
              have y53 : k53 = 2 := own_addeq y53 (congrArg (fun q => q) y50) rfl
              have z53 : n53 = 4 := own_addeq z53 (congrArg (fun q => q) z50) rfl
              obtain ⟨r54, rfl, N53q, hr_r54, e53⟩ := hQ53
              have N53 : Fr n0 L53 := by rw [l53]; exact Fr.app N50 N53q
              refine own_go (fun _ k => st53.trans k) ?_
              show own_Go _ _ _ _ T53 (mkF m 159 #[.val (.long q_1), .second, .val (.long q_2), .second, .val (.long q_3), .second, .val (.long q_4), .second, .val (.int p_5), .val (.long q_3), .second, .val (.long q_4), .second, .val (.int v4), .val (.ref b5), .val (.ref b15), .val (.int (1 : Int32))] [(.int r54)])
              have hc55 : ¬ (r54 = 0) := own_t0_2 q_1 q_2 q_3 q_4 r48 r51 r54 hc42 hc43 hr_r48 hc49 hr_r51 hc52 hr_r54
              refine own_go (fun _ k => XS.ifNo X53.here hx rfl (hb hby at_159) rfl (Jvm.Free.XT.i0_eq_f hc55) k) ?_
              show own_Go _ _ _ _ T53 (mkF m 162 #[.val (.long q_1), .second, .val (.long q_2), .second, .val (.long q_3), .second, .val (.long q_4), .second, .val (.int p_5), .val (.long q_3), .second, .val (.long q_4), .second, .val (.int v4), .val (.ref b5), .val (.ref b15), .val (.int (1 : Int32))] [])
              refine own_go (fun _ k => XS.iconst X53.here hx rfl (hb hby at_162) k) ?_
              show own_Go _ _ _ _ T53 (mkF m 163 #[.val (.long q_1), .second, .val (.long q_2), .second, .val (.long q_3), .second, .val (.long q_4), .second, .val (.int p_5), .val (.long q_3), .second, .val (.long q_4), .second, .val (.int v4), .val (.ref b5), .val (.ref b15), .val (.int (1 : Int32))] [(.int (1 : Int32))])
              refine own_go (fun _ k => XS.goto X53.here hx rfl (pc0 := 163) (pc' := 167) rfl (hb hby at_163) (by decide) (by decide) k) ?_
              show own_Go _ _ _ _ T53 (mkF m 167 #[.val (.long q_1), .second, .val (.long q_2), .second, .val (.long q_3), .second, .val (.long q_4), .second, .val (.int p_5), .val (.long q_3), .second, .val (.long q_4), .second, .val (.int v4), .val (.ref b5), .val (.ref b15), .val (.int (1 : Int32))] [(.int (1 : Int32))])
              obtain ⟨fs, hr, hrun, hended, hW, hsame⟩ := X53.leave (v := some (.int (1 : Int32))) (fun h => by rw [Bd.returns] at h; cases h)
              refine ⟨_, _, retOut X53 hx Bd.returns rfl (Or.inl ⟨rfl, Or.inr (Or.inl rfl), _, rfl⟩) (hb hby at_167) hr, hrun, hended, _, _, rfl, ?_, ⟨_, rfl⟩, hW, hsame.mono (by rw [y53]; decide) (by rw [z53]; decide)⟩
              show own_Q0 Z q_1 q_2 q_3 q_4 p_5 wsc g_ h0 n0 _ T53.heap _
              rw [e53]
              exact ⟨rfl, N53⟩
            · refine own_go (fun _ k => XS.ifYes X17.here hx rfl (pc0 := 118) (pc' := 125) rfl (hb hby at_118) rfl (Jvm.Free.XT.ll_ne_t hc43) (by decide) (by decide) k) ?_
              show own_Go _ _ _ _ T17 (mkF m 125 #[.val (.long q_1), .second, .val (.long q_2), .second, .val (.long q_3), .second, .val (.long q_4), .second, .val (.int p_5), .val (.long q_3), .second, .val (.long q_4), .second, .val (.int v4), .val (.ref b5), .val (.ref b15), .unset] [])
              refine own_go (fun _ k => XS.iconst X17.here hx rfl (hb hby at_125) k) ?_
              show own_Go _ _ _ _ T17 (mkF m 126 #[.val (.long q_1), .second, .val (.long q_2), .second, .val (.long q_3), .second, .val (.long q_4), .second, .val (.int p_5), .val (.long q_3), .second, .val (.long q_4), .second, .val (.int v4), .val (.ref b5), .val (.ref b15), .unset] [(.int (0 : Int32))])
              refine own_go (fun _ k => XS.istore X17.here hx rfl (hb hby at_126) rfl (l' := #[.val (.long q_1), .second, .val (.long q_2), .second, .val (.long q_3), .second, .val (.long q_4), .second, .val (.int p_5), .val (.long q_3), .second, .val (.long q_4), .second, .val (.int v4), .val (.ref b5), .val (.ref b15), .val (.int (0 : Int32))]) rfl k) ?_
              show own_Go _ _ _ _ T17 (mkF m 128 #[.val (.long q_1), .second, .val (.long q_2), .second, .val (.long q_3), .second, .val (.long q_4), .second, .val (.int p_5), .val (.long q_3), .second, .val (.long q_4), .second, .val (.int v4), .val (.ref b5), .val (.ref b15), .val (.int (0 : Int32))] [])
              refine own_go (fun _ k => XS.aload X17.here hx rfl (hb hby at_128) rfl rfl k) ?_
              show own_Go _ _ _ _ T17 (mkF m 130 #[.val (.long q_1), .second, .val (.long q_2), .second, .val (.long q_3), .second, .val (.long q_4), .second, .val (.int p_5), .val (.long q_3), .second, .val (.long q_4), .second, .val (.int v4), .val (.ref b5), .val (.ref b15), .val (.int (0 : Int32))] [(.ref b5)])
              refine own_go (fun _ k => XS.aload X17.here hx rfl (hb hby at_130) rfl rfl k) ?_
              show own_Go _ _ _ _ T17 (mkF m 132 #[.val (.long q_1), .second, .val (.long q_2), .second, .val (.long q_3), .second, .val (.long q_4), .second, .val (.int p_5), .val (.long q_3), .second, .val (.long q_4), .second, .val (.int v4), .val (.ref b5), .val (.ref b15), .val (.int (0 : Int32))] [(.ref b15), (.ref b5)])
              have f57 : Fld Z T17.heap b5 "com/example/epsilonet/epsilonet/service/ObservationTree$Outcome" "observed" "J" (.long q_1) := ((f9.ext E15).keep K17q (ninS (own_ne (by omega)) nin0))
              have f58 : Fld Z T17.heap b5 "com/example/epsilonet/epsilonet/service/ObservationTree$Outcome" "values" "J" (.long q_2) := ((f10.ext E15).keep K17q (ninS (own_ne (by omega)) nin0))
              have f60 : Exa Z T17.heap b5 "com/example/epsilonet/epsilonet/service/ObservationTree$Outcome" := ((f8.ext E15).keep K17q)
              obtain ⟨cq59, kq59, q59a, q59b, q59c⟩ := isOf hZ rfl f60
              obtain ⟨_, _, ⟨T59, L59, k59, n59⟩, -, X59, ⟨Lc59, hQ59, l59, y59, z59⟩, st59⟩ := X17.virtualBack hx (y := (⟨"com/example/epsilonet/epsilonet/service/ObservationTree$Outcome", "equals", "(Ljava/lang/Object;)Z"⟩ : MethodName)) (z := (⟨"com/example/epsilonet/epsilonet/service/ObservationTree$Outcome", "equals", "(Ljava/lang/Object;)Z"⟩ : MethodName)) hown (mvT hZ (hw _ (List.mem_of_getElem? (i := 18) rfl))) (mvT hZ (hw _ (List.mem_of_getElem? (i := 19) rfl))) (notFace_of_selects (args := #[]) (mvT hZ (hw _ (List.mem_of_getElem? (i := 21) rfl)))) (mvT hZ (hw _ (List.mem_of_getElem? (i := 21) rfl))) (mvT hZ (hw _ (List.mem_of_getElem? (i := 20) rfl))) (by decide) (backOf (W := 0) (own_rm4 l Z a0 hw [] b5 b15 q_1 q_3 q_2 q_4 T17.heap n0 (by omega) f18 f57 f19 f58 f20) hZ (hw _ (List.mem_of_getElem? (i := 22) rfl)) (hw _ (List.mem_of_getElem? (i := 2) rfl)) (by decide) (by decide)) q59a q59c (g := (mkF m 132 #[.val (.long q_1), .second, .val (.long q_2), .second, .val (.long q_3), .second, .val (.long q_4), .second, .val (.int p_5), .val (.long q_3), .second, .val (.long q_4), .second, .val (.int v4), .val (.ref b5), .val (.ref b15), .val (.int (0 : Int32))] [(.ref b15), (.ref b5)])) rfl (by rw [hml]; rfl) (Steps.refl _) (argsL := [(.ref b15)]) (rest := []) (lenOf own_pd3 rfl) rfl (by show 2 * 0 + _ ≤ _; exact Nat.le_of_eq rfl) (hb hby at_132) (fun _ _ => ⟨rfl, rfl, (by show k17 + _ ≤ _; rw [y17]; decide), (by show n17 + _ ≤ _; rw [z17]; decide)⟩)
              dsimp only [Pt.U, Pt.locs, Pt.cells, Pt.slots] at X59 l59 y59 z59 st59 hQ59
              have y59 : k59 = 2 := own_addeq y59 (congrArg (fun q => q) y17) rfl
              have z59 : n59 = 4 := own_addeq z59 (congrArg (fun q => q) z17) rfl
              obtain ⟨r61, rfl, N59q, hr_r61, e59⟩ := hQ59
              have N59 : Fr n0 L59 := by rw [l59]; exact Fr.app N17 N59q
              refine own_go (fun _ k => st59.trans k) ?_
              show own_Go _ _ _ _ T59 (mkF m 135 #[.val (.long q_1), .second, .val (.long q_2), .second, .val (.long q_3), .second, .val (.long q_4), .second, .val (.int p_5), .val (.long q_3), .second, .val (.long q_4), .second, .val (.int v4), .val (.ref b5), .val (.ref b15), .val (.int (0 : Int32))] [(.int r61)])
              refine own_go (fun _ k => XS.iload X59.here hx rfl (hb hby at_135) rfl k) ?_
              show own_Go _ _ _ _ T59 (mkF m 137 #[.val (.long q_1), .second, .val (.long q_2), .second, .val (.long q_3), .second, .val (.long q_4), .second, .val (.int p_5), .val (.long q_3), .second, .val (.long q_4), .second, .val (.int v4), .val (.ref b5), .val (.ref b15), .val (.int (0 : Int32))] [(.int (0 : Int32)), (.int r61)])
              have hc62 : r61 = (0 : Int32) := own_t0_3 q_1 q_2 q_3 q_4 r61 hc42 hc43 hr_r61
              refine own_go (fun _ k => XS.icmpNo X59.here hx rfl (hb hby at_137) rfl (Jvm.Free.XT.ii_ne_f hc62) k) ?_
              show own_Go _ _ _ _ T59 (mkF m 140 #[.val (.long q_1), .second, .val (.long q_2), .second, .val (.long q_3), .second, .val (.long q_4), .second, .val (.int p_5), .val (.long q_3), .second, .val (.long q_4), .second, .val (.int v4), .val (.ref b5), .val (.ref b15), .val (.int (0 : Int32))] [])
              refine own_go (fun _ k => XS.aload X59.here hx rfl (hb hby at_140) rfl rfl k) ?_
              show own_Go _ _ _ _ T59 (mkF m 142 #[.val (.long q_1), .second, .val (.long q_2), .second, .val (.long q_3), .second, .val (.long q_4), .second, .val (.int p_5), .val (.long q_3), .second, .val (.long q_4), .second, .val (.int v4), .val (.ref b5), .val (.ref b15), .val (.int (0 : Int32))] [(.ref b15)])
              refine own_go (fun _ k => XS.aload X59.here hx rfl (hb hby at_142) rfl rfl k) ?_
              show own_Go _ _ _ _ T59 (mkF m 144 #[.val (.long q_1), .second, .val (.long q_2), .second, .val (.long q_3), .second, .val (.long q_4), .second, .val (.int p_5), .val (.long q_3), .second, .val (.long q_4), .second, .val (.int v4), .val (.ref b5), .val (.ref b15), .val (.int (0 : Int32))] [(.ref b5), (.ref b15)])
              obtain ⟨cq63, kq63, q63a, q63b, q63c⟩ := isOf hZ e59 f18
              obtain ⟨_, _, ⟨T63, L63, k63, n63⟩, -, X63, ⟨Lc63, hQ63, l63, y63, z63⟩, st63⟩ := X59.virtualBack hx (y := (⟨"com/example/epsilonet/epsilonet/service/ObservationTree$Outcome", "equals", "(Ljava/lang/Object;)Z"⟩ : MethodName)) (z := (⟨"com/example/epsilonet/epsilonet/service/ObservationTree$Outcome", "equals", "(Ljava/lang/Object;)Z"⟩ : MethodName)) hown (mvT hZ (hw _ (List.mem_of_getElem? (i := 18) rfl))) (mvT hZ (hw _ (List.mem_of_getElem? (i := 19) rfl))) (notFace_of_selects (args := #[]) (mvT hZ (hw _ (List.mem_of_getElem? (i := 21) rfl)))) (mvT hZ (hw _ (List.mem_of_getElem? (i := 21) rfl))) (mvT hZ (hw _ (List.mem_of_getElem? (i := 20) rfl))) (by decide) (backOf (W := 0) (own_rm4 l Z a0 hw [] b15 b5 q_3 q_1 q_4 q_2 T17.heap n0 (by omega) f60 f19 f57 f20 f58) hZ (hw _ (List.mem_of_getElem? (i := 22) rfl)) (hw _ (List.mem_of_getElem? (i := 2) rfl)) (by decide) (by decide)) q63a q63c (g := (mkF m 144 #[.val (.long q_1), .second, .val (.long q_2), .second, .val (.long q_3), .second, .val (.long q_4), .second, .val (.int p_5), .val (.long q_3), .second, .val (.long q_4), .second, .val (.int v4), .val (.ref b5), .val (.ref b15), .val (.int (0 : Int32))] [(.ref b5), (.ref b15)])) rfl (by rw [hml]; rfl) (Steps.refl _) (argsL := [(.ref b5)]) (rest := []) (lenOf own_pd3 rfl) rfl (by show 2 * 0 + _ ≤ _; exact Nat.le_of_eq rfl) (hb hby at_144) (fun _ _ => ⟨rfl, e59, (by show k59 + _ ≤ _; rw [y59]; decide), (by show n59 + _ ≤ _; rw [z59]; decide)⟩)
              dsimp only [Pt.U, Pt.locs, Pt.cells, Pt.slots] at X63 l63 y63 z63 st63 hQ63
              have y63 : k63 = 2 := own_addeq y63 (congrArg (fun q => q) y59) rfl
              have z63 : n63 = 4 := own_addeq z63 (congrArg (fun q => q) z59) rfl
              obtain ⟨r64, rfl, N63q, hr_r64, e63⟩ := hQ63
              have N63 : Fr n0 L63 := by rw [l63]; exact Fr.app N59 N63q
              refine own_go (fun _ k => st63.trans k) ?_
              show own_Go _ _ _ _ T63 (mkF m 147 #[.val (.long q_1), .second, .val (.long q_2), .second, .val (.long q_3), .second, .val (.long q_4), .second, .val (.int p_5), .val (.long q_3), .second, .val (.long q_4), .second, .val (.int v4), .val (.ref b5), .val (.ref b15), .val (.int (0 : Int32))] [(.int r64)])
              refine own_go (fun _ k => XS.iload X63.here hx rfl (hb hby at_147) rfl k) ?_
              show own_Go _ _ _ _ T63 (mkF m 149 #[.val (.long q_1), .second, .val (.long q_2), .second, .val (.long q_3), .second, .val (.long q_4), .second, .val (.int p_5), .val (.long q_3), .second, .val (.long q_4), .second, .val (.int v4), .val (.ref b5), .val (.ref b15), .val (.int (0 : Int32))] [(.int (0 : Int32)), (.int r64)])
              have hc65 : r64 = (0 : Int32) := own_t0_4 q_1 q_2 q_3 q_4 r61 r64 hc42 hc43 hr_r61 hc62 hr_r64
              refine own_go (fun _ k => XS.icmpNo X63.here hx rfl (hb hby at_149) rfl (Jvm.Free.XT.ii_ne_f hc65) k) ?_
              show own_Go _ _ _ _ T63 (mkF m 152 #[.val (.long q_1), .second, .val (.long q_2), .second, .val (.long q_3), .second, .val (.long q_4), .second, .val (.int p_5), .val (.long q_3), .second, .val (.long q_4), .second, .val (.int v4), .val (.ref b5), .val (.ref b15), .val (.int (0 : Int32))] [])
              refine own_go (fun _ k => XS.aload X63.here hx rfl (hb hby at_152) rfl rfl k) ?_
              show own_Go _ _ _ _ T63 (mkF m 154 #[.val (.long q_1), .second, .val (.long q_2), .second, .val (.long q_3), .second, .val (.long q_4), .second, .val (.int p_5), .val (.long q_3), .second, .val (.long q_4), .second, .val (.int v4), .val (.ref b5), .val (.ref b15), .val (.int (0 : Int32))] [(.ref b5)])
              refine own_go (fun _ k => XS.aload X63.here hx rfl (hb hby at_154) rfl rfl k) ?_
              show own_Go _ _ _ _ T63 (mkF m 156 #[.val (.long q_1), .second, .val (.long q_2), .second, .val (.long q_3), .second, .val (.long q_4), .second, .val (.int p_5), .val (.long q_3), .second, .val (.long q_4), .second, .val (.int v4), .val (.ref b5), .val (.ref b15), .val (.int (0 : Int32))] [(.ref b5), (.ref b5)])
              obtain ⟨cq66, kq66, q66a, q66b, q66c⟩ := isOf hZ e63 f60
              obtain ⟨_, _, ⟨T66, L66, k66, n66⟩, -, X66, ⟨Lc66, hQ66, l66, y66, z66⟩, st66⟩ := X63.virtualBack hx (y := (⟨"com/example/epsilonet/epsilonet/service/ObservationTree$Outcome", "equals", "(Ljava/lang/Object;)Z"⟩ : MethodName)) (z := (⟨"com/example/epsilonet/epsilonet/service/ObservationTree$Outcome", "equals", "(Ljava/lang/Object;)Z"⟩ : MethodName)) hown (mvT hZ (hw _ (List.mem_of_getElem? (i := 18) rfl))) (mvT hZ (hw _ (List.mem_of_getElem? (i := 19) rfl))) (notFace_of_selects (args := #[]) (mvT hZ (hw _ (List.mem_of_getElem? (i := 21) rfl)))) (mvT hZ (hw _ (List.mem_of_getElem? (i := 21) rfl))) (mvT hZ (hw _ (List.mem_of_getElem? (i := 20) rfl))) (by decide) (backOf (W := 0) (own_rm4 l Z a0 hw [] b5 b5 q_1 q_1 q_2 q_2 T17.heap n0 (by omega) f60 f57 f57 f58 f58) hZ (hw _ (List.mem_of_getElem? (i := 22) rfl)) (hw _ (List.mem_of_getElem? (i := 2) rfl)) (by decide) (by decide)) q66a q66c (g := (mkF m 156 #[.val (.long q_1), .second, .val (.long q_2), .second, .val (.long q_3), .second, .val (.long q_4), .second, .val (.int p_5), .val (.long q_3), .second, .val (.long q_4), .second, .val (.int v4), .val (.ref b5), .val (.ref b15), .val (.int (0 : Int32))] [(.ref b5), (.ref b5)])) rfl (by rw [hml]; rfl) (Steps.refl _) (argsL := [(.ref b5)]) (rest := []) (lenOf own_pd3 rfl) rfl (by show 2 * 0 + _ ≤ _; exact Nat.le_of_eq rfl) (hb hby at_156) (fun _ _ => ⟨rfl, e63, (by show k63 + _ ≤ _; rw [y63]; decide), (by show n63 + _ ≤ _; rw [z63]; decide)⟩)
              dsimp only [Pt.U, Pt.locs, Pt.cells, Pt.slots] at X66 l66 y66 z66 st66 hQ66
              have y66 : k66 = 2 := own_addeq y66 (congrArg (fun q => q) y63) rfl
              have z66 : n66 = 4 := own_addeq z66 (congrArg (fun q => q) z63) rfl
              obtain ⟨r67, rfl, N66q, hr_r67, e66⟩ := hQ66
              have N66 : Fr n0 L66 := by rw [l66]; exact Fr.app N63 N66q
              refine own_go (fun _ k => st66.trans k) ?_
              show own_Go _ _ _ _ T66 (mkF m 159 #[.val (.long q_1), .second, .val (.long q_2), .second, .val (.long q_3), .second, .val (.long q_4), .second, .val (.int p_5), .val (.long q_3), .second, .val (.long q_4), .second, .val (.int v4), .val (.ref b5), .val (.ref b15), .val (.int (0 : Int32))] [(.int r67)])
              have hc68 : ¬ (r67 = 0) := own_t0_5 q_1 q_2 q_3 q_4 r61 r64 r67 hc42 hc43 hr_r61 hc62 hr_r64 hc65 hr_r67
              refine own_go (fun _ k => XS.ifNo X66.here hx rfl (hb hby at_159) rfl (Jvm.Free.XT.i0_eq_f hc68) k) ?_
              show own_Go _ _ _ _ T66 (mkF m 162 #[.val (.long q_1), .second, .val (.long q_2), .second, .val (.long q_3), .second, .val (.long q_4), .second, .val (.int p_5), .val (.long q_3), .second, .val (.long q_4), .second, .val (.int v4), .val (.ref b5), .val (.ref b15), .val (.int (0 : Int32))] [])
              refine own_go (fun _ k => XS.iconst X66.here hx rfl (hb hby at_162) k) ?_
              show own_Go _ _ _ _ T66 (mkF m 163 #[.val (.long q_1), .second, .val (.long q_2), .second, .val (.long q_3), .second, .val (.long q_4), .second, .val (.int p_5), .val (.long q_3), .second, .val (.long q_4), .second, .val (.int v4), .val (.ref b5), .val (.ref b15), .val (.int (0 : Int32))] [(.int (1 : Int32))])
              refine own_go (fun _ k => XS.goto X66.here hx rfl (pc0 := 163) (pc' := 167) rfl (hb hby at_163) (by decide) (by decide) k) ?_
              show own_Go _ _ _ _ T66 (mkF m 167 #[.val (.long q_1), .second, .val (.long q_2), .second, .val (.long q_3), .second, .val (.long q_4), .second, .val (.int p_5), .val (.long q_3), .second, .val (.long q_4), .second, .val (.int v4), .val (.ref b5), .val (.ref b15), .val (.int (0 : Int32))] [(.int (1 : Int32))])
              obtain ⟨fs, hr, hrun, hended, hW, hsame⟩ := X66.leave (v := some (.int (1 : Int32))) (fun h => by rw [Bd.returns] at h; cases h)
              refine ⟨_, _, retOut X66 hx Bd.returns rfl (Or.inl ⟨rfl, Or.inr (Or.inl rfl), _, rfl⟩) (hb hby at_167) hr, hrun, hended, _, _, rfl, ?_, ⟨_, rfl⟩, hW, hsame.mono (by rw [y66]; decide) (by rw [z66]; decide)⟩
              show own_Q0 Z q_1 q_2 q_3 q_4 p_5 wsc g_ h0 n0 _ T66.heap _
              rw [e66]
              exact ⟨rfl, N66⟩
          · refine own_go (fun _ k => XS.ifYes X17.here hx rfl (pc0 := 111) (pc' := 125) rfl (hb hby at_111) rfl (Jvm.Free.XT.ll_ne_t hc42) (by decide) (by decide) k) ?_
            show own_Go _ _ _ _ T17 (mkF m 125 #[.val (.long q_1), .second, .val (.long q_2), .second, .val (.long q_3), .second, .val (.long q_4), .second, .val (.int p_5), .val (.long q_3), .second, .val (.long q_4), .second, .val (.int v4), .val (.ref b5), .val (.ref b15), .unset] [])
            refine own_go (fun _ k => XS.iconst X17.here hx rfl (hb hby at_125) k) ?_
            show own_Go _ _ _ _ T17 (mkF m 126 #[.val (.long q_1), .second, .val (.long q_2), .second, .val (.long q_3), .second, .val (.long q_4), .second, .val (.int p_5), .val (.long q_3), .second, .val (.long q_4), .second, .val (.int v4), .val (.ref b5), .val (.ref b15), .unset] [(.int (0 : Int32))])
            refine own_go (fun _ k => XS.istore X17.here hx rfl (hb hby at_126) rfl (l' := #[.val (.long q_1), .second, .val (.long q_2), .second, .val (.long q_3), .second, .val (.long q_4), .second, .val (.int p_5), .val (.long q_3), .second, .val (.long q_4), .second, .val (.int v4), .val (.ref b5), .val (.ref b15), .val (.int (0 : Int32))]) rfl k) ?_
            show own_Go _ _ _ _ T17 (mkF m 128 #[.val (.long q_1), .second, .val (.long q_2), .second, .val (.long q_3), .second, .val (.long q_4), .second, .val (.int p_5), .val (.long q_3), .second, .val (.long q_4), .second, .val (.int v4), .val (.ref b5), .val (.ref b15), .val (.int (0 : Int32))] [])
            refine own_go (fun _ k => XS.aload X17.here hx rfl (hb hby at_128) rfl rfl k) ?_
            show own_Go _ _ _ _ T17 (mkF m 130 #[.val (.long q_1), .second, .val (.long q_2), .second, .val (.long q_3), .second, .val (.long q_4), .second, .val (.int p_5), .val (.long q_3), .second, .val (.long q_4), .second, .val (.int v4), .val (.ref b5), .val (.ref b15), .val (.int (0 : Int32))] [(.ref b5)])
            refine own_go (fun _ k => XS.aload X17.here hx rfl (hb hby at_130) rfl rfl k) ?_
            show own_Go _ _ _ _ T17 (mkF m 132 #[.val (.long q_1), .second, .val (.long q_2), .second, .val (.long q_3), .second, .val (.long q_4), .second, .val (.int p_5), .val (.long q_3), .second, .val (.long q_4), .second, .val (.int v4), .val (.ref b5), .val (.ref b15), .val (.int (0 : Int32))] [(.ref b15), (.ref b5)])
            have f70 : Fld Z T17.heap b5 "com/example/epsilonet/epsilonet/service/ObservationTree$Outcome" "observed" "J" (.long q_1) := ((f9.ext E15).keep K17q (ninS (own_ne (by omega)) nin0))
            have f71 : Fld Z T17.heap b5 "com/example/epsilonet/epsilonet/service/ObservationTree$Outcome" "values" "J" (.long q_2) := ((f10.ext E15).keep K17q (ninS (own_ne (by omega)) nin0))
            have f73 : Exa Z T17.heap b5 "com/example/epsilonet/epsilonet/service/ObservationTree$Outcome" := ((f8.ext E15).keep K17q)
            obtain ⟨cq72, kq72, q72a, q72b, q72c⟩ := isOf hZ rfl f73
            obtain ⟨_, _, ⟨T72, L72, k72, n72⟩, -, X72, ⟨Lc72, hQ72, l72, y72, z72⟩, st72⟩ := X17.virtualBack hx (y := (⟨"com/example/epsilonet/epsilonet/service/ObservationTree$Outcome", "equals", "(Ljava/lang/Object;)Z"⟩ : MethodName)) (z := (⟨"com/example/epsilonet/epsilonet/service/ObservationTree$Outcome", "equals", "(Ljava/lang/Object;)Z"⟩ : MethodName)) hown (mvT hZ (hw _ (List.mem_of_getElem? (i := 18) rfl))) (mvT hZ (hw _ (List.mem_of_getElem? (i := 19) rfl))) (notFace_of_selects (args := #[]) (mvT hZ (hw _ (List.mem_of_getElem? (i := 21) rfl)))) (mvT hZ (hw _ (List.mem_of_getElem? (i := 21) rfl))) (mvT hZ (hw _ (List.mem_of_getElem? (i := 20) rfl))) (by decide) (backOf (W := 0) (own_rm4 l Z a0 hw [] b5 b15 q_1 q_3 q_2 q_4 T17.heap n0 (by omega) f18 f70 f19 f71 f20) hZ (hw _ (List.mem_of_getElem? (i := 22) rfl)) (hw _ (List.mem_of_getElem? (i := 2) rfl)) (by decide) (by decide)) q72a q72c (g := (mkF m 132 #[.val (.long q_1), .second, .val (.long q_2), .second, .val (.long q_3), .second, .val (.long q_4), .second, .val (.int p_5), .val (.long q_3), .second, .val (.long q_4), .second, .val (.int v4), .val (.ref b5), .val (.ref b15), .val (.int (0 : Int32))] [(.ref b15), (.ref b5)])) rfl (by rw [hml]; rfl) (Steps.refl _) (argsL := [(.ref b15)]) (rest := []) (lenOf own_pd3 rfl) rfl (by show 2 * 0 + _ ≤ _; exact Nat.le_of_eq rfl) (hb hby at_132) (fun _ _ => ⟨rfl, rfl, (by show k17 + _ ≤ _; rw [y17]; decide), (by show n17 + _ ≤ _; rw [z17]; decide)⟩)
            dsimp only [Pt.U, Pt.locs, Pt.cells, Pt.slots] at X72 l72 y72 z72 st72 hQ72
            have y72 : k72 = 2 := own_addeq y72 (congrArg (fun q => q) y17) rfl
            have z72 : n72 = 4 := own_addeq z72 (congrArg (fun q => q) z17) rfl
            obtain ⟨r74, rfl, N72q, hr_r74, e72⟩ := hQ72
            have N72 : Fr n0 L72 := by rw [l72]; exact Fr.app N17 N72q
            refine own_go (fun _ k => st72.trans k) ?_
            show own_Go _ _ _ _ T72 (mkF m 135 #[.val (.long q_1), .second, .val (.long q_2), .second, .val (.long q_3), .second, .val (.long q_4), .second, .val (.int p_5), .val (.long q_3), .second, .val (.long q_4), .second, .val (.int v4), .val (.ref b5), .val (.ref b15), .val (.int (0 : Int32))] [(.int r74)])
            refine own_go (fun _ k => XS.iload X72.here hx rfl (hb hby at_135) rfl k) ?_
            show own_Go _ _ _ _ T72 (mkF m 137 #[.val (.long q_1), .second, .val (.long q_2), .second, .val (.long q_3), .second, .val (.long q_4), .second, .val (.int p_5), .val (.long q_3), .second, .val (.long q_4), .second, .val (.int v4), .val (.ref b5), .val (.ref b15), .val (.int (0 : Int32))] [(.int (0 : Int32)), (.int r74)])
            have hc75 : r74 = (0 : Int32) := own_t0_6 q_1 q_2 q_3 q_4 r74 hc42 hr_r74
            refine own_go (fun _ k => XS.icmpNo X72.here hx rfl (hb hby at_137) rfl (Jvm.Free.XT.ii_ne_f hc75) k) ?_
            show own_Go _ _ _ _ T72 (mkF m 140 #[.val (.long q_1), .second, .val (.long q_2), .second, .val (.long q_3), .second, .val (.long q_4), .second, .val (.int p_5), .val (.long q_3), .second, .val (.long q_4), .second, .val (.int v4), .val (.ref b5), .val (.ref b15), .val (.int (0 : Int32))] [])
            refine own_go (fun _ k => XS.aload X72.here hx rfl (hb hby at_140) rfl rfl k) ?_
            show own_Go _ _ _ _ T72 (mkF m 142 #[.val (.long q_1), .second, .val (.long q_2), .second, .val (.long q_3), .second, .val (.long q_4), .second, .val (.int p_5), .val (.long q_3), .second, .val (.long q_4), .second, .val (.int v4), .val (.ref b5), .val (.ref b15), .val (.int (0 : Int32))] [(.ref b15)])
            refine own_go (fun _ k => XS.aload X72.here hx rfl (hb hby at_142) rfl rfl k) ?_
            show own_Go _ _ _ _ T72 (mkF m 144 #[.val (.long q_1), .second, .val (.long q_2), .second, .val (.long q_3), .second, .val (.long q_4), .second, .val (.int p_5), .val (.long q_3), .second, .val (.long q_4), .second, .val (.int v4), .val (.ref b5), .val (.ref b15), .val (.int (0 : Int32))] [(.ref b5), (.ref b15)])
            obtain ⟨cq76, kq76, q76a, q76b, q76c⟩ := isOf hZ e72 f18
            obtain ⟨_, _, ⟨T76, L76, k76, n76⟩, -, X76, ⟨Lc76, hQ76, l76, y76, z76⟩, st76⟩ := X72.virtualBack hx (y := (⟨"com/example/epsilonet/epsilonet/service/ObservationTree$Outcome", "equals", "(Ljava/lang/Object;)Z"⟩ : MethodName)) (z := (⟨"com/example/epsilonet/epsilonet/service/ObservationTree$Outcome", "equals", "(Ljava/lang/Object;)Z"⟩ : MethodName)) hown (mvT hZ (hw _ (List.mem_of_getElem? (i := 18) rfl))) (mvT hZ (hw _ (List.mem_of_getElem? (i := 19) rfl))) (notFace_of_selects (args := #[]) (mvT hZ (hw _ (List.mem_of_getElem? (i := 21) rfl)))) (mvT hZ (hw _ (List.mem_of_getElem? (i := 21) rfl))) (mvT hZ (hw _ (List.mem_of_getElem? (i := 20) rfl))) (by decide) (backOf (W := 0) (own_rm4 l Z a0 hw [] b15 b5 q_3 q_1 q_4 q_2 T17.heap n0 (by omega) f73 f19 f70 f20 f71) hZ (hw _ (List.mem_of_getElem? (i := 22) rfl)) (hw _ (List.mem_of_getElem? (i := 2) rfl)) (by decide) (by decide)) q76a q76c (g := (mkF m 144 #[.val (.long q_1), .second, .val (.long q_2), .second, .val (.long q_3), .second, .val (.long q_4), .second, .val (.int p_5), .val (.long q_3), .second, .val (.long q_4), .second, .val (.int v4), .val (.ref b5), .val (.ref b15), .val (.int (0 : Int32))] [(.ref b5), (.ref b15)])) rfl (by rw [hml]; rfl) (Steps.refl _) (argsL := [(.ref b5)]) (rest := []) (lenOf own_pd3 rfl) rfl (by show 2 * 0 + _ ≤ _; exact Nat.le_of_eq rfl) (hb hby at_144) (fun _ _ => ⟨rfl, e72, (by show k72 + _ ≤ _; rw [y72]; decide), (by show n72 + _ ≤ _; rw [z72]; decide)⟩)
            dsimp only [Pt.U, Pt.locs, Pt.cells, Pt.slots] at X76 l76 y76 z76 st76 hQ76
            have y76 : k76 = 2 := own_addeq y76 (congrArg (fun q => q) y72) rfl
            have z76 : n76 = 4 := own_addeq z76 (congrArg (fun q => q) z72) rfl
            obtain ⟨r77, rfl, N76q, hr_r77, e76⟩ := hQ76
            have N76 : Fr n0 L76 := by rw [l76]; exact Fr.app N72 N76q
            refine own_go (fun _ k => st76.trans k) ?_
            show own_Go _ _ _ _ T76 (mkF m 147 #[.val (.long q_1), .second, .val (.long q_2), .second, .val (.long q_3), .second, .val (.long q_4), .second, .val (.int p_5), .val (.long q_3), .second, .val (.long q_4), .second, .val (.int v4), .val (.ref b5), .val (.ref b15), .val (.int (0 : Int32))] [(.int r77)])
            refine own_go (fun _ k => XS.iload X76.here hx rfl (hb hby at_147) rfl k) ?_
            show own_Go _ _ _ _ T76 (mkF m 149 #[.val (.long q_1), .second, .val (.long q_2), .second, .val (.long q_3), .second, .val (.long q_4), .second, .val (.int p_5), .val (.long q_3), .second, .val (.long q_4), .second, .val (.int v4), .val (.ref b5), .val (.ref b15), .val (.int (0 : Int32))] [(.int (0 : Int32)), (.int r77)])
            have hc78 : r77 = (0 : Int32) := own_t0_7 q_1 q_2 q_3 q_4 r74 r77 hc42 hr_r74 hc75 hr_r77
            refine own_go (fun _ k => XS.icmpNo X76.here hx rfl (hb hby at_149) rfl (Jvm.Free.XT.ii_ne_f hc78) k) ?_
            show own_Go _ _ _ _ T76 (mkF m 152 #[.val (.long q_1), .second, .val (.long q_2), .second, .val (.long q_3), .second, .val (.long q_4), .second, .val (.int p_5), .val (.long q_3), .second, .val (.long q_4), .second, .val (.int v4), .val (.ref b5), .val (.ref b15), .val (.int (0 : Int32))] [])
            refine own_go (fun _ k => XS.aload X76.here hx rfl (hb hby at_152) rfl rfl k) ?_
            show own_Go _ _ _ _ T76 (mkF m 154 #[.val (.long q_1), .second, .val (.long q_2), .second, .val (.long q_3), .second, .val (.long q_4), .second, .val (.int p_5), .val (.long q_3), .second, .val (.long q_4), .second, .val (.int v4), .val (.ref b5), .val (.ref b15), .val (.int (0 : Int32))] [(.ref b5)])
            refine own_go (fun _ k => XS.aload X76.here hx rfl (hb hby at_154) rfl rfl k) ?_
            show own_Go _ _ _ _ T76 (mkF m 156 #[.val (.long q_1), .second, .val (.long q_2), .second, .val (.long q_3), .second, .val (.long q_4), .second, .val (.int p_5), .val (.long q_3), .second, .val (.long q_4), .second, .val (.int v4), .val (.ref b5), .val (.ref b15), .val (.int (0 : Int32))] [(.ref b5), (.ref b5)])
            obtain ⟨cq79, kq79, q79a, q79b, q79c⟩ := isOf hZ e76 f73
            obtain ⟨_, _, ⟨T79, L79, k79, n79⟩, -, X79, ⟨Lc79, hQ79, l79, y79, z79⟩, st79⟩ := X76.virtualBack hx (y := (⟨"com/example/epsilonet/epsilonet/service/ObservationTree$Outcome", "equals", "(Ljava/lang/Object;)Z"⟩ : MethodName)) (z := (⟨"com/example/epsilonet/epsilonet/service/ObservationTree$Outcome", "equals", "(Ljava/lang/Object;)Z"⟩ : MethodName)) hown (mvT hZ (hw _ (List.mem_of_getElem? (i := 18) rfl))) (mvT hZ (hw _ (List.mem_of_getElem? (i := 19) rfl))) (notFace_of_selects (args := #[]) (mvT hZ (hw _ (List.mem_of_getElem? (i := 21) rfl)))) (mvT hZ (hw _ (List.mem_of_getElem? (i := 21) rfl))) (mvT hZ (hw _ (List.mem_of_getElem? (i := 20) rfl))) (by decide) (backOf (W := 0) (own_rm4 l Z a0 hw [] b5 b5 q_1 q_1 q_2 q_2 T17.heap n0 (by omega) f73 f70 f70 f71 f71) hZ (hw _ (List.mem_of_getElem? (i := 22) rfl)) (hw _ (List.mem_of_getElem? (i := 2) rfl)) (by decide) (by decide)) q79a q79c (g := (mkF m 156 #[.val (.long q_1), .second, .val (.long q_2), .second, .val (.long q_3), .second, .val (.long q_4), .second, .val (.int p_5), .val (.long q_3), .second, .val (.long q_4), .second, .val (.int v4), .val (.ref b5), .val (.ref b15), .val (.int (0 : Int32))] [(.ref b5), (.ref b5)])) rfl (by rw [hml]; rfl) (Steps.refl _) (argsL := [(.ref b5)]) (rest := []) (lenOf own_pd3 rfl) rfl (by show 2 * 0 + _ ≤ _; exact Nat.le_of_eq rfl) (hb hby at_156) (fun _ _ => ⟨rfl, e76, (by show k76 + _ ≤ _; rw [y76]; decide), (by show n76 + _ ≤ _; rw [z76]; decide)⟩)
            dsimp only [Pt.U, Pt.locs, Pt.cells, Pt.slots] at X79 l79 y79 z79 st79 hQ79
            have y79 : k79 = 2 := own_addeq y79 (congrArg (fun q => q) y76) rfl
            have z79 : n79 = 4 := own_addeq z79 (congrArg (fun q => q) z76) rfl
            obtain ⟨r80, rfl, N79q, hr_r80, e79⟩ := hQ79
            have N79 : Fr n0 L79 := by rw [l79]; exact Fr.app N76 N79q
            refine own_go (fun _ k => st79.trans k) ?_
            show own_Go _ _ _ _ T79 (mkF m 159 #[.val (.long q_1), .second, .val (.long q_2), .second, .val (.long q_3), .second, .val (.long q_4), .second, .val (.int p_5), .val (.long q_3), .second, .val (.long q_4), .second, .val (.int v4), .val (.ref b5), .val (.ref b15), .val (.int (0 : Int32))] [(.int r80)])
            have hc81 : ¬ (r80 = 0) := own_t0_8 q_1 q_2 q_3 q_4 r74 r77 r80 hc42 hr_r74 hc75 hr_r77 hc78 hr_r80
            refine own_go (fun _ k => XS.ifNo X79.here hx rfl (hb hby at_159) rfl (Jvm.Free.XT.i0_eq_f hc81) k) ?_
            show own_Go _ _ _ _ T79 (mkF m 162 #[.val (.long q_1), .second, .val (.long q_2), .second, .val (.long q_3), .second, .val (.long q_4), .second, .val (.int p_5), .val (.long q_3), .second, .val (.long q_4), .second, .val (.int v4), .val (.ref b5), .val (.ref b15), .val (.int (0 : Int32))] [])
            refine own_go (fun _ k => XS.iconst X79.here hx rfl (hb hby at_162) k) ?_
            show own_Go _ _ _ _ T79 (mkF m 163 #[.val (.long q_1), .second, .val (.long q_2), .second, .val (.long q_3), .second, .val (.long q_4), .second, .val (.int p_5), .val (.long q_3), .second, .val (.long q_4), .second, .val (.int v4), .val (.ref b5), .val (.ref b15), .val (.int (0 : Int32))] [(.int (1 : Int32))])
            refine own_go (fun _ k => XS.goto X79.here hx rfl (pc0 := 163) (pc' := 167) rfl (hb hby at_163) (by decide) (by decide) k) ?_
            show own_Go _ _ _ _ T79 (mkF m 167 #[.val (.long q_1), .second, .val (.long q_2), .second, .val (.long q_3), .second, .val (.long q_4), .second, .val (.int p_5), .val (.long q_3), .second, .val (.long q_4), .second, .val (.int v4), .val (.ref b5), .val (.ref b15), .val (.int (0 : Int32))] [(.int (1 : Int32))])
            obtain ⟨fs, hr, hrun, hended, hW, hsame⟩ := X79.leave (v := some (.int (1 : Int32))) (fun h => by rw [Bd.returns] at h; cases h)
            refine ⟨_, _, retOut X79 hx Bd.returns rfl (Or.inl ⟨rfl, Or.inr (Or.inl rfl), _, rfl⟩) (hb hby at_167) hr, hrun, hended, _, _, rfl, ?_, ⟨_, rfl⟩, hW, hsame.mono (by rw [y79]; decide) (by rw [z79]; decide)⟩
            show own_Q0 Z q_1 q_2 q_3 q_4 p_5 wsc g_ h0 n0 _ T79.heap _
            rw [e79]
            exact ⟨rfl, N79⟩
    · refine own_go (fun _ k => XS.ifNo X0.here hx rfl (hb hby at_19) rfl (Jvm.Free.XT.i0_eq_f hc3) k) ?_
      show own_Go _ _ _ _ s₁ (mkF m 22 #[.val (.long q_1), .second, .val (.long q_2), .second, .val (.long q_3), .second, .val (.long q_4), .second, .val (.int p_5), .val (.long q_3), .second, .unset, .unset, .unset, .unset, .unset, .unset] [])
      refine own_go (fun _ k => XS.lloadN X0.here hx rfl (hb hby at_22) rfl k) ?_
      show own_Go _ _ _ _ s₁ (mkF m 23 #[.val (.long q_1), .second, .val (.long q_2), .second, .val (.long q_3), .second, .val (.long q_4), .second, .val (.int p_5), .val (.long q_3), .second, .unset, .unset, .unset, .unset, .unset, .unset] [(.long q_2)])
      refine own_go (fun _ k => XS.goto X0.here hx rfl (pc0 := 23) (pc' := 28) rfl (hb hby at_23) (by decide) (by decide) k) ?_
      show own_Go _ _ _ _ s₁ (mkF m 28 #[.val (.long q_1), .second, .val (.long q_2), .second, .val (.long q_3), .second, .val (.long q_4), .second, .val (.int p_5), .val (.long q_3), .second, .unset, .unset, .unset, .unset, .unset, .unset] [(.long q_2)])
      refine own_go (fun _ k => XS.lstore X0.here hx rfl (hb hby at_28) rfl (l' := #[.val (.long q_1), .second, .val (.long q_2), .second, .val (.long q_3), .second, .val (.long q_4), .second, .val (.int p_5), .val (.long q_3), .second, .val (.long q_2), .second, .unset, .unset, .unset, .unset]) rfl k) ?_
      show own_Go _ _ _ _ s₁ (mkF m 30 #[.val (.long q_1), .second, .val (.long q_2), .second, .val (.long q_3), .second, .val (.long q_4), .second, .val (.int p_5), .val (.long q_3), .second, .val (.long q_2), .second, .unset, .unset, .unset, .unset] [])
      refine own_go (fun _ k => XS.iload X0.here hx rfl (hb hby at_30) rfl k) ?_
      show own_Go _ _ _ _ s₁ (mkF m 32 #[.val (.long q_1), .second, .val (.long q_2), .second, .val (.long q_3), .second, .val (.long q_4), .second, .val (.int p_5), .val (.long q_3), .second, .val (.long q_2), .second, .unset, .unset, .unset, .unset] [(.int p_5)])
      refine own_go (fun _ k => XS.iconst X0.here hx rfl (hb hby at_32) k) ?_
      show own_Go _ _ _ _ s₁ (mkF m 33 #[.val (.long q_1), .second, .val (.long q_2), .second, .val (.long q_3), .second, .val (.long q_4), .second, .val (.int p_5), .val (.long q_3), .second, .val (.long q_2), .second, .unset, .unset, .unset, .unset] [(.int (2 : Int32)), (.int p_5)])
      refine own_go (fun _ k => XS.iushr X0.here hx rfl (hb hby at_33) rfl k) ?_
      show own_Go _ _ _ _ s₁ (mkF m 34 #[.val (.long q_1), .second, .val (.long q_2), .second, .val (.long q_3), .second, .val (.long q_4), .second, .val (.int p_5), .val (.long q_3), .second, .val (.long q_2), .second, .unset, .unset, .unset, .unset] [(.int ((p_5.toUInt32 >>> ((2 : Int32) &&& 31).toUInt32).toInt32))])
      refine own_go (fun _ k => XS.iconst X0.here hx rfl (hb hby at_34) k) ?_
      show own_Go _ _ _ _ s₁ (mkF m 35 #[.val (.long q_1), .second, .val (.long q_2), .second, .val (.long q_3), .second, .val (.long q_4), .second, .val (.int p_5), .val (.long q_3), .second, .val (.long q_2), .second, .unset, .unset, .unset, .unset] [(.int (3 : Int32)), (.int ((p_5.toUInt32 >>> ((2 : Int32) &&& 31).toUInt32).toInt32))])
      refine own_go (fun _ k => XS.iand X0.here hx rfl (hb hby at_35) rfl k) ?_
      show own_Go _ _ _ _ s₁ (mkF m 36 #[.val (.long q_1), .second, .val (.long q_2), .second, .val (.long q_3), .second, .val (.long q_4), .second, .val (.int p_5), .val (.long q_3), .second, .val (.long q_2), .second, .unset, .unset, .unset, .unset] [(.int (((p_5.toUInt32 >>> ((2 : Int32) &&& 31).toUInt32).toInt32) &&& (3 : Int32)))])
      refine own_go (fun _ k => XS.istore X0.here hx rfl (hb hby at_36) rfl (l' := #[.val (.long q_1), .second, .val (.long q_2), .second, .val (.long q_3), .second, .val (.long q_4), .second, .val (.int p_5), .val (.long q_3), .second, .val (.long q_2), .second, .val (.int (((p_5.toUInt32 >>> ((2 : Int32) &&& 31).toUInt32).toInt32) &&& (3 : Int32))), .unset, .unset, .unset]) rfl k) ?_
      show own_Go _ _ _ _ s₁ (mkF m 38 #[.val (.long q_1), .second, .val (.long q_2), .second, .val (.long q_3), .second, .val (.long q_4), .second, .val (.int p_5), .val (.long q_3), .second, .val (.long q_2), .second, .val (.int (((p_5.toUInt32 >>> ((2 : Int32) &&& 31).toUInt32).toInt32) &&& (3 : Int32))), .unset, .unset, .unset] [])
      generalize hdv83 : (((p_5.toUInt32 >>> ((2 : Int32) &&& 31).toUInt32).toInt32) &&& (3 : Int32)) = v83
      show own_Go _ _ _ _ s₁ (mkF m 38 #[.val (.long q_1), .second, .val (.long q_2), .second, .val (.long q_3), .second, .val (.long q_4), .second, .val (.int p_5), .val (.long q_3), .second, .val (.long q_2), .second, .val (.int v83), .unset, .unset, .unset] [])
      obtain ⟨T84, h84, X84, e84, E84, A84, D84, Y84, st84⟩ := newO X0 hx hZ hown (hw _ (List.mem_of_getElem? (i := 0) rfl)) (hw _ (List.mem_of_getElem? (i := 1) rfl)) (hw _ (List.mem_of_getElem? (i := 2) rfl)) e0 (g := (mkF m 38 #[.val (.long q_1), .second, .val (.long q_2), .second, .val (.long q_3), .second, .val (.long q_4), .second, .val (.int p_5), .val (.long q_3), .second, .val (.long q_2), .second, .val (.int v83), .unset, .unset, .unset] [])) rfl (hb hby at_38) (by decide) (by decide)
      obtain ⟨b84, g84⟩ : ∃ z, z = h0.size := ⟨_, rfl⟩
      rw [← g84] at A84 D84 Y84 st84
      have z85 := E84.1
      have lt_b84 := own_lt A84.lt
      have K84 : Keep h0 h84 [] := K0.ext E84
      have F_observed_b84 : Fld Z h84 b84 "com/example/epsilonet/epsilonet/service/ObservationTree$Outcome" "observed" "J" (.long (0 : Int64)) := D84 (Or.inr (hw _ (List.mem_of_getElem? (i := 15) rfl))) (ty := .long) (by decide)
      have F_values_b84 : Fld Z h84 b84 "com/example/epsilonet/epsilonet/service/ObservationTree$Outcome" "values" "J" (.long (0 : Int64)) := D84 (Or.inr (hw _ (List.mem_of_getElem? (i := 17) rfl))) (ty := .long) (by decide)
      refine own_go (fun _ k => st84 _ k) ?_
      show own_Go _ _ _ _ T84 (mkF m 41 #[.val (.long q_1), .second, .val (.long q_2), .second, .val (.long q_3), .second, .val (.long q_4), .second, .val (.int p_5), .val (.long q_3), .second, .val (.long q_2), .second, .val (.int v83), .unset, .unset, .unset] [(.ref b84)])
      refine own_go (fun _ k => XS.dup X84.here hx rfl (hb hby at_41) rfl rfl k) ?_
      show own_Go _ _ _ _ T84 (mkF m 42 #[.val (.long q_1), .second, .val (.long q_2), .second, .val (.long q_3), .second, .val (.long q_4), .second, .val (.int p_5), .val (.long q_3), .second, .val (.long q_2), .second, .val (.int v83), .unset, .unset, .unset] [(.ref b84), (.ref b84)])
      refine own_go (fun _ k => XS.lloadN X84.here hx rfl (hb hby at_42) rfl k) ?_
      show own_Go _ _ _ _ T84 (mkF m 43 #[.val (.long q_1), .second, .val (.long q_2), .second, .val (.long q_3), .second, .val (.long q_4), .second, .val (.int p_5), .val (.long q_3), .second, .val (.long q_2), .second, .val (.int v83), .unset, .unset, .unset] [(.long q_1), (.ref b84), (.ref b84)])
      refine own_go (fun _ k => XS.lloadN X84.here hx rfl (hb hby at_43) rfl k) ?_
      show own_Go _ _ _ _ T84 (mkF m 44 #[.val (.long q_1), .second, .val (.long q_2), .second, .val (.long q_3), .second, .val (.long q_4), .second, .val (.int p_5), .val (.long q_3), .second, .val (.long q_2), .second, .val (.int v83), .unset, .unset, .unset] [(.long q_2), (.long q_1), (.ref b84), (.ref b84)])
      obtain ⟨_, _, ⟨T86, L86, k86, n86⟩, -, X86, ⟨Lc86, hQ86, l86, y86, z86⟩, st86⟩ := X84.specialBack hx (y := (⟨"com/example/epsilonet/epsilonet/service/ObservationTree$Outcome", "<init>", "(JJ)V"⟩ : MethodName)) rfl hown (mvT hZ (hw _ (List.mem_of_getElem? (i := 3) rfl))) (mvT hZ (hw _ (List.mem_of_getElem? (i := 4) rfl))) (mvT hZ (hw _ (List.mem_of_getElem? (i := 5) rfl))) (by decide) (backOf (W := 1) (own_rm1 l Z a0 hw [] b84 q_1 q_2 (0 : Int64) (0 : Int64) h84 n0 (by omega) A84 F_observed_b84 F_values_b84 (by omega)) hZ (hw _ (List.mem_of_getElem? (i := 5) rfl)) (hw _ (List.mem_of_getElem? (i := 2) rfl)) (by decide) (by decide)) (g := (mkF m 44 #[.val (.long q_1), .second, .val (.long q_2), .second, .val (.long q_3), .second, .val (.long q_4), .second, .val (.int p_5), .val (.long q_3), .second, .val (.long q_2), .second, .val (.int v83), .unset, .unset, .unset] [(.long q_2), (.long q_1), (.ref b84), (.ref b84)])) rfl (by rw [hml]; rfl) (Steps.refl _) (a := b84) (argsL := [(.long q_1), (.long q_2)]) (rest := [(.ref b84)]) (lenOf own_pd2 rfl) rfl (by show 2 * 0 + _ ≤ _; exact Nat.le_of_eq rfl) (hb hby at_44) (fun _ _ => ⟨rfl, e84, (by decide : 1 + 0 ≤ _), (by decide : 2 + 0 ≤ _)⟩)
      dsimp only [Pt.U, Pt.locs, Pt.cells, Pt.slots] at X86 l86 y86 z86 st86 hQ86
      have y86 : k86 = 1 := y86
      have z86 : n86 = 2 := z86
      obtain ⟨rfl, N86q, K86q, f87, f88, f89⟩ := hQ86
      have N86 : Fr n0 L86 := by rw [l86]; exact Fr.app N0 N86q
      have z90 := K86q.1
      have K86 : Keep h0 T86.heap [] := K84.trans K86q (allS (Or.inr (by omega)) all0)
      have z91 := own_lt f87.lt
      have z92 := own_lt f88.lt
      have z93 := own_lt f89.lt
      refine own_go (fun _ k => st86.trans k) ?_
      show own_Go _ _ _ _ T86 (mkF m 47 #[.val (.long q_1), .second, .val (.long q_2), .second, .val (.long q_3), .second, .val (.long q_4), .second, .val (.int p_5), .val (.long q_3), .second, .val (.long q_2), .second, .val (.int v83), .unset, .unset, .unset] [(.ref b84)])
      refine own_go (fun _ k => XS.astore X86.here hx rfl (hb hby at_47) rfl rfl (l' := #[.val (.long q_1), .second, .val (.long q_2), .second, .val (.long q_3), .second, .val (.long q_4), .second, .val (.int p_5), .val (.long q_3), .second, .val (.long q_2), .second, .val (.int v83), .val (.ref b84), .unset, .unset]) rfl k) ?_
      show own_Go _ _ _ _ T86 (mkF m 49 #[.val (.long q_1), .second, .val (.long q_2), .second, .val (.long q_3), .second, .val (.long q_4), .second, .val (.int p_5), .val (.long q_3), .second, .val (.long q_2), .second, .val (.int v83), .val (.ref b84), .unset, .unset] [])
      obtain ⟨T94, h94, X94, e94, E94, A94, D94, Y94, st94⟩ := newO X86 hx hZ hown (hw _ (List.mem_of_getElem? (i := 0) rfl)) (hw _ (List.mem_of_getElem? (i := 1) rfl)) (hw _ (List.mem_of_getElem? (i := 2) rfl)) rfl (g := (mkF m 49 #[.val (.long q_1), .second, .val (.long q_2), .second, .val (.long q_3), .second, .val (.long q_4), .second, .val (.int p_5), .val (.long q_3), .second, .val (.long q_2), .second, .val (.int v83), .val (.ref b84), .unset, .unset] [])) rfl (hb hby at_49) (by rw [y86]; decide) (by rw [z86]; decide)
      obtain ⟨b94, g94⟩ : ∃ z, z = T86.heap.size := ⟨_, rfl⟩
      rw [← g94] at A94 D94 Y94 st94
      have z95 := E94.1
      have lt_b94 := own_lt A94.lt
      have K94 : Keep h0 h94 [] := K86.ext E94
      have F_observed_b94 : Fld Z h94 b94 "com/example/epsilonet/epsilonet/service/ObservationTree$Outcome" "observed" "J" (.long (0 : Int64)) := D94 (Or.inr (hw _ (List.mem_of_getElem? (i := 15) rfl))) (ty := .long) (by decide)
      have F_values_b94 : Fld Z h94 b94 "com/example/epsilonet/epsilonet/service/ObservationTree$Outcome" "values" "J" (.long (0 : Int64)) := D94 (Or.inr (hw _ (List.mem_of_getElem? (i := 17) rfl))) (ty := .long) (by decide)
      refine own_go (fun _ k => st94 _ k) ?_
      show own_Go _ _ _ _ T94 (mkF m 52 #[.val (.long q_1), .second, .val (.long q_2), .second, .val (.long q_3), .second, .val (.long q_4), .second, .val (.int p_5), .val (.long q_3), .second, .val (.long q_2), .second, .val (.int v83), .val (.ref b84), .unset, .unset] [(.ref b94)])
      refine own_go (fun _ k => XS.dup X94.here hx rfl (hb hby at_52) rfl rfl k) ?_
      show own_Go _ _ _ _ T94 (mkF m 53 #[.val (.long q_1), .second, .val (.long q_2), .second, .val (.long q_3), .second, .val (.long q_4), .second, .val (.int p_5), .val (.long q_3), .second, .val (.long q_2), .second, .val (.int v83), .val (.ref b84), .unset, .unset] [(.ref b94), (.ref b94)])
      refine own_go (fun _ k => XS.lload X94.here hx rfl (hb hby at_53) rfl k) ?_
      show own_Go _ _ _ _ T94 (mkF m 55 #[.val (.long q_1), .second, .val (.long q_2), .second, .val (.long q_3), .second, .val (.long q_4), .second, .val (.int p_5), .val (.long q_3), .second, .val (.long q_2), .second, .val (.int v83), .val (.ref b84), .unset, .unset] [(.long q_3), (.ref b94), (.ref b94)])
      refine own_go (fun _ k => XS.lload X94.here hx rfl (hb hby at_55) rfl k) ?_
      show own_Go _ _ _ _ T94 (mkF m 57 #[.val (.long q_1), .second, .val (.long q_2), .second, .val (.long q_3), .second, .val (.long q_4), .second, .val (.int p_5), .val (.long q_3), .second, .val (.long q_2), .second, .val (.int v83), .val (.ref b84), .unset, .unset] [(.long q_2), (.long q_3), (.ref b94), (.ref b94)])
      obtain ⟨_, _, ⟨T96, L96, k96, n96⟩, -, X96, ⟨Lc96, hQ96, l96, y96, z96⟩, st96⟩ := X94.specialBack hx (y := (⟨"com/example/epsilonet/epsilonet/service/ObservationTree$Outcome", "<init>", "(JJ)V"⟩ : MethodName)) rfl hown (mvT hZ (hw _ (List.mem_of_getElem? (i := 3) rfl))) (mvT hZ (hw _ (List.mem_of_getElem? (i := 4) rfl))) (mvT hZ (hw _ (List.mem_of_getElem? (i := 5) rfl))) (by decide) (backOf (W := 1) (own_rm1 l Z a0 hw [] b94 q_3 q_2 (0 : Int64) (0 : Int64) h94 n0 (by omega) A94 F_observed_b94 F_values_b94 (by omega)) hZ (hw _ (List.mem_of_getElem? (i := 5) rfl)) (hw _ (List.mem_of_getElem? (i := 2) rfl)) (by decide) (by decide)) (g := (mkF m 57 #[.val (.long q_1), .second, .val (.long q_2), .second, .val (.long q_3), .second, .val (.long q_4), .second, .val (.int p_5), .val (.long q_3), .second, .val (.long q_2), .second, .val (.int v83), .val (.ref b84), .unset, .unset] [(.long q_2), (.long q_3), (.ref b94), (.ref b94)])) rfl (by rw [hml]; rfl) (Steps.refl _) (a := b94) (argsL := [(.long q_3), (.long q_2)]) (rest := [(.ref b94)]) (lenOf own_pd2 rfl) rfl (by show 2 * 0 + _ ≤ _; exact Nat.le_of_eq rfl) (hb hby at_57) (fun _ _ => ⟨rfl, e94, (by show k86 + 1 + _ ≤ _; rw [y86]; decide), (by show n86 + 2 + _ ≤ _; rw [z86]; decide)⟩)
      dsimp only [Pt.U, Pt.locs, Pt.cells, Pt.slots] at X96 l96 y96 z96 st96 hQ96
      have y96 : k96 = 2 := own_addeq y96 (congrArg (fun q => q + 1) y86) rfl
      have z96 : n96 = 4 := own_addeq z96 (congrArg (fun q => q + 2) z86) rfl
      obtain ⟨rfl, N96q, K96q, f97, f98, f99⟩ := hQ96
      have N96 : Fr n0 L96 := by rw [l96]; exact Fr.app N86 N96q
      have z100 := K96q.1
      have K96 : Keep h0 T96.heap [] := K94.trans K96q (allS (Or.inr (by omega)) all0)
      have z101 := own_lt f97.lt
      have z102 := own_lt f98.lt
      have z103 := own_lt f99.lt
      refine own_go (fun _ k => st96.trans k) ?_
      show own_Go _ _ _ _ T96 (mkF m 60 #[.val (.long q_1), .second, .val (.long q_2), .second, .val (.long q_3), .second, .val (.long q_4), .second, .val (.int p_5), .val (.long q_3), .second, .val (.long q_2), .second, .val (.int v83), .val (.ref b84), .unset, .unset] [(.ref b94)])
      refine own_go (fun _ k => XS.astore X96.here hx rfl (hb hby at_60) rfl rfl (l' := #[.val (.long q_1), .second, .val (.long q_2), .second, .val (.long q_3), .second, .val (.long q_4), .second, .val (.int p_5), .val (.long q_3), .second, .val (.long q_2), .second, .val (.int v83), .val (.ref b84), .val (.ref b94), .unset]) rfl k) ?_
      show own_Go _ _ _ _ T96 (mkF m 62 #[.val (.long q_1), .second, .val (.long q_2), .second, .val (.long q_3), .second, .val (.long q_4), .second, .val (.int p_5), .val (.long q_3), .second, .val (.long q_2), .second, .val (.int v83), .val (.ref b84), .val (.ref b94), .unset] [])
      refine own_go (fun _ k => XS.iload X96.here hx rfl (hb hby at_62) rfl k) ?_
      show own_Go _ _ _ _ T96 (mkF m 64 #[.val (.long q_1), .second, .val (.long q_2), .second, .val (.long q_3), .second, .val (.long q_4), .second, .val (.int p_5), .val (.long q_3), .second, .val (.long q_2), .second, .val (.int v83), .val (.ref b84), .val (.ref b94), .unset] [(.int v83)])
      refine own_go (fun _ k => XS.iconst X96.here hx rfl (hb hby at_64) k) ?_
      show own_Go _ _ _ _ T96 (mkF m 65 #[.val (.long q_1), .second, .val (.long q_2), .second, .val (.long q_3), .second, .val (.long q_4), .second, .val (.int p_5), .val (.long q_3), .second, .val (.long q_2), .second, .val (.int v83), .val (.ref b84), .val (.ref b94), .unset] [(.int (1 : Int32)), (.int v83)])
      by_cases hc104 : v83 = (1 : Int32)
      · refine own_go (fun _ k => XS.icmpNo X96.here hx rfl (hb hby at_65) rfl (Jvm.Free.XT.ii_ne_f hc104) k) ?_
        show own_Go _ _ _ _ T96 (mkF m 68 #[.val (.long q_1), .second, .val (.long q_2), .second, .val (.long q_3), .second, .val (.long q_4), .second, .val (.int p_5), .val (.long q_3), .second, .val (.long q_2), .second, .val (.int v83), .val (.ref b84), .val (.ref b94), .unset] [])
        refine own_go (fun _ k => XS.aload X96.here hx rfl (hb hby at_68) rfl rfl k) ?_
        show own_Go _ _ _ _ T96 (mkF m 70 #[.val (.long q_1), .second, .val (.long q_2), .second, .val (.long q_3), .second, .val (.long q_4), .second, .val (.int p_5), .val (.long q_3), .second, .val (.long q_2), .second, .val (.int v83), .val (.ref b84), .val (.ref b94), .unset] [(.ref b84)])
        refine own_go (fun _ k => XS.aconstNull X96.here hx rfl (hb hby at_70) k) ?_
        show own_Go _ _ _ _ T96 (mkF m 71 #[.val (.long q_1), .second, .val (.long q_2), .second, .val (.long q_3), .second, .val (.long q_4), .second, .val (.int p_5), .val (.long q_3), .second, .val (.long q_2), .second, .val (.int v83), .val (.ref b84), .val (.ref b94), .unset] [.null, (.ref b84)])
        have f106 : Exa Z T96.heap b84 "com/example/epsilonet/epsilonet/service/ObservationTree$Outcome" := ((f87.ext E94).keep K96q)
        obtain ⟨cq105, kq105, q105a, q105b, q105c⟩ := isOf hZ rfl f106
        obtain ⟨_, _, ⟨T105, L105, k105, n105⟩, -, X105, ⟨Lc105, hQ105, l105, y105, z105⟩, st105⟩ := X96.virtualBack hx (y := (⟨"com/example/epsilonet/epsilonet/service/ObservationTree$Outcome", "equals", "(Ljava/lang/Object;)Z"⟩ : MethodName)) (z := (⟨"com/example/epsilonet/epsilonet/service/ObservationTree$Outcome", "equals", "(Ljava/lang/Object;)Z"⟩ : MethodName)) hown (mvT hZ (hw _ (List.mem_of_getElem? (i := 18) rfl))) (mvT hZ (hw _ (List.mem_of_getElem? (i := 19) rfl))) (notFace_of_selects (args := #[]) (mvT hZ (hw _ (List.mem_of_getElem? (i := 21) rfl)))) (mvT hZ (hw _ (List.mem_of_getElem? (i := 21) rfl))) (mvT hZ (hw _ (List.mem_of_getElem? (i := 20) rfl))) (by decide) (backOf (W := 0) (own_rm4n l Z a0 hw [] b84  T96.heap n0 (by omega) ) hZ (hw _ (List.mem_of_getElem? (i := 22) rfl)) (hw _ (List.mem_of_getElem? (i := 2) rfl)) (by decide) (by decide)) q105a q105c (g := (mkF m 71 #[.val (.long q_1), .second, .val (.long q_2), .second, .val (.long q_3), .second, .val (.long q_4), .second, .val (.int p_5), .val (.long q_3), .second, .val (.long q_2), .second, .val (.int v83), .val (.ref b84), .val (.ref b94), .unset] [.null, (.ref b84)])) rfl (by rw [hml]; rfl) (Steps.refl _) (argsL := [.null]) (rest := []) (lenOf own_pd3 rfl) rfl (by show 2 * 0 + _ ≤ _; exact Nat.le_of_eq rfl) (hb hby at_71) (fun _ _ => ⟨rfl, rfl, (by show k96 + _ ≤ _; rw [y96]; decide), (by show n96 + _ ≤ _; rw [z96]; decide)⟩)
        dsimp only [Pt.U, Pt.locs, Pt.cells, Pt.slots] at X105 l105 y105 z105 st105 hQ105
        have y105 : k105 = 2 := own_addeq y105 (congrArg (fun q => q) y96) rfl
        have z105 : n105 = 4 := own_addeq z105 (congrArg (fun q => q) z96) rfl
        obtain ⟨rfl, N105q, e105⟩ := hQ105
        have N105 : Fr n0 L105 := by rw [l105]; exact Fr.app N96 N105q
        refine own_go (fun _ k => st105.trans k) ?_
        show own_Go _ _ _ _ T105 (mkF m 74 #[.val (.long q_1), .second, .val (.long q_2), .second, .val (.long q_3), .second, .val (.long q_4), .second, .val (.int p_5), .val (.long q_3), .second, .val (.long q_2), .second, .val (.int v83), .val (.ref b84), .val (.ref b94), .unset] [(.int (0 : Int32))])
        have hc107 : (0 : Int32) = 0 := by decide
        refine own_go (fun _ k => XS.ifNo X105.here hx rfl (hb hby at_74) rfl (Jvm.Free.XT.i0_ne_f hc107) k) ?_
        show own_Go _ _ _ _ T105 (mkF m 77 #[.val (.long q_1), .second, .val (.long q_2), .second, .val (.long q_3), .second, .val (.long q_4), .second, .val (.int p_5), .val (.long q_3), .second, .val (.long q_2), .second, .val (.int v83), .val (.ref b84), .val (.ref b94), .unset] [])
        refine own_go (fun _ k => XS.iconst X105.here hx rfl (hb hby at_77) k) ?_
        show own_Go _ _ _ _ T105 (mkF m 78 #[.val (.long q_1), .second, .val (.long q_2), .second, .val (.long q_3), .second, .val (.long q_4), .second, .val (.int p_5), .val (.long q_3), .second, .val (.long q_2), .second, .val (.int v83), .val (.ref b84), .val (.ref b94), .unset] [(.int (1 : Int32))])
        refine own_go (fun _ k => XS.goto X105.here hx rfl (pc0 := 78) (pc' := 82) rfl (hb hby at_78) (by decide) (by decide) k) ?_
        show own_Go _ _ _ _ T105 (mkF m 82 #[.val (.long q_1), .second, .val (.long q_2), .second, .val (.long q_3), .second, .val (.long q_4), .second, .val (.int p_5), .val (.long q_3), .second, .val (.long q_2), .second, .val (.int v83), .val (.ref b84), .val (.ref b94), .unset] [(.int (1 : Int32))])
        obtain ⟨fs, hr, hrun, hended, hW, hsame⟩ := X105.leave (v := some (.int (1 : Int32))) (fun h => by rw [Bd.returns] at h; cases h)
        refine ⟨_, _, retOut X105 hx Bd.returns rfl (Or.inl ⟨rfl, Or.inr (Or.inl rfl), _, rfl⟩) (hb hby at_82) hr, hrun, hended, _, _, rfl, ?_, ⟨_, rfl⟩, hW, hsame.mono (by rw [y105]; decide) (by rw [z105]; decide)⟩
        show own_Q0 Z q_1 q_2 q_3 q_4 p_5 wsc g_ h0 n0 _ T105.heap _
        rw [e105]
        exact ⟨rfl, N105⟩
      · refine own_go (fun _ k => XS.icmpYes X96.here hx rfl (pc0 := 65) (pc' := 83) rfl (hb hby at_65) rfl (Jvm.Free.XT.ii_ne_t hc104) (by decide) (by decide) k) ?_
        show own_Go _ _ _ _ T96 (mkF m 83 #[.val (.long q_1), .second, .val (.long q_2), .second, .val (.long q_3), .second, .val (.long q_4), .second, .val (.int p_5), .val (.long q_3), .second, .val (.long q_2), .second, .val (.int v83), .val (.ref b84), .val (.ref b94), .unset] [])
        refine own_go (fun _ k => XS.iload X96.here hx rfl (hb hby at_83) rfl k) ?_
        show own_Go _ _ _ _ T96 (mkF m 85 #[.val (.long q_1), .second, .val (.long q_2), .second, .val (.long q_3), .second, .val (.long q_4), .second, .val (.int p_5), .val (.long q_3), .second, .val (.long q_2), .second, .val (.int v83), .val (.ref b84), .val (.ref b94), .unset] [(.int v83)])
        refine own_go (fun _ k => XS.iconst X96.here hx rfl (hb hby at_85) k) ?_
        show own_Go _ _ _ _ T96 (mkF m 86 #[.val (.long q_1), .second, .val (.long q_2), .second, .val (.long q_3), .second, .val (.long q_4), .second, .val (.int p_5), .val (.long q_3), .second, .val (.long q_2), .second, .val (.int v83), .val (.ref b84), .val (.ref b94), .unset] [(.int (2 : Int32)), (.int v83)])
        by_cases hc109 : v83 = (2 : Int32)
        · refine own_go (fun _ k => XS.icmpNo X96.here hx rfl (hb hby at_86) rfl (Jvm.Free.XT.ii_ne_f hc109) k) ?_
          show own_Go _ _ _ _ T96 (mkF m 89 #[.val (.long q_1), .second, .val (.long q_2), .second, .val (.long q_3), .second, .val (.long q_4), .second, .val (.int p_5), .val (.long q_3), .second, .val (.long q_2), .second, .val (.int v83), .val (.ref b84), .val (.ref b94), .unset] [])
          refine own_go (fun _ k => XS.aload X96.here hx rfl (hb hby at_89) rfl rfl k) ?_
          show own_Go _ _ _ _ T96 (mkF m 91 #[.val (.long q_1), .second, .val (.long q_2), .second, .val (.long q_3), .second, .val (.long q_4), .second, .val (.int p_5), .val (.long q_3), .second, .val (.long q_2), .second, .val (.int v83), .val (.ref b84), .val (.ref b94), .unset] [(.ref b84)])
          refine own_go (fun _ k => XS.lloadN X96.here hx rfl (hb hby at_91) rfl k) ?_
          show own_Go _ _ _ _ T96 (mkF m 92 #[.val (.long q_1), .second, .val (.long q_2), .second, .val (.long q_3), .second, .val (.long q_4), .second, .val (.int p_5), .val (.long q_3), .second, .val (.long q_2), .second, .val (.int v83), .val (.ref b84), .val (.ref b94), .unset] [(.long q_1), (.ref b84)])
          have f110 : Sta Z T96.heap "java/lang/Long$LongCache" "cache" "[Ljava/lang/Long;" (.ref wsc) := (own_sta_keep ((own_sta_keep (pr_S_java_lang_Long_LongCache_cache.ext E84) K86q (allS (own_exa_plain A84) all0)).ext E94) K96q (allS (own_exa_plain A94) all0))
          have f111 : own_AV Z T96.heap wsc (.object "java/lang/Long") (256 : Int32) g_ := ((((pr_A_wsc.ext E84).keep K86q (ninS (own_ne (by omega)) nin0)).ext E94).keep K96q (ninS (own_ne (by omega)) nin0))
          obtain ⟨_, _, ⟨T112, L112, k112, n112⟩, -, X112, ⟨Lc112, hQ112, l112, y112, z112⟩, st112⟩ := Jvm.LawKit.callS X96 hx (y := (⟨"java/lang/Long", "valueOf", "(J)Ljava/lang/Long;"⟩ : MethodName)) hown (mvT hZ (hw _ (List.mem_of_getElem? (i := 25) rfl))) (mvT hZ (hw _ (List.mem_of_getElem? (i := 26) rfl))) (mvT hZ (hw _ (List.mem_of_getElem? (i := 27) rfl))) (mvT hZ (hw _ (List.mem_of_getElem? (i := 28) rfl))) (by decide) (backOf (W := 1) (own_rm5 l Z a0 hw [] q_1 wsc g_ T96.heap n0 (by omega) f110 f111 (fun i hi => by obtain ⟨a, e1, e2⟩ := hcache i hi; exact ⟨a, e1, e2.keep K96⟩)) hZ (hw _ (List.mem_of_getElem? (i := 28) rfl)) (hw _ (List.mem_of_getElem? (i := 27) rfl)) (by decide) (by decide)) (g := (mkF m 92 #[.val (.long q_1), .second, .val (.long q_2), .second, .val (.long q_3), .second, .val (.long q_4), .second, .val (.int p_5), .val (.long q_3), .second, .val (.long q_2), .second, .val (.int v83), .val (.ref b84), .val (.ref b94), .unset] [(.long q_1), (.ref b84)])) rfl (by rw [hml]; rfl) (argsL := [(.long q_1)]) (rest := [(.ref b84)]) (lenOf own_pd4 rfl) rfl (by show 2 * 0 + _ ≤ _; exact Nat.le_of_eq rfl) (hb hby at_92) (fun _ _ => ⟨rfl, rfl, (by show k96 + _ ≤ _; rw [y96]; decide), (by show n96 + _ ≤ _; rw [z96]; decide)⟩)
          dsimp only [Pt.U, Pt.locs, Pt.cells, Pt.slots] at X112 l112 y112 z112 st112 hQ112
          have y112 : k112 = 3 := own_addeq y112 (congrArg (fun q => q) y96) rfl
          have z112 : n112 = 5 := own_addeq z112 (congrArg (fun q => q) z96) rfl
          obtain ⟨b113, rfl, N112q, K112q, f114⟩ := hQ112
          have N112 : Fr n0 L112 := by rw [l112]; exact Fr.app N96 N112q
          have z115 := K112q.1
          have K112 : Keep h0 T112.heap [] := K96.trans K112q all0
          have z116 := own_lt f114.lt
          refine own_go (fun _ k => st112 _ k) ?_
          show own_Go _ _ _ _ T112 (mkF m 95 #[.val (.long q_1), .second, .val (.long q_2), .second, .val (.long q_3), .second, .val (.long q_4), .second, .val (.int p_5), .val (.long q_3), .second, .val (.long q_2), .second, .val (.int v83), .val (.ref b84), .val (.ref b94), .unset] [(.ref b113), (.ref b84)])
          have f118 : Exa Z T112.heap b84 "com/example/epsilonet/epsilonet/service/ObservationTree$Outcome" := (((f87.ext E94).keep K96q).keep K112q)
          obtain ⟨cq117, kq117, q117a, q117b, q117c⟩ := isOf hZ rfl f118
          obtain ⟨_, _, ⟨T117, L117, k117, n117⟩, -, X117, ⟨Lc117, hQ117, l117, y117, z117⟩, st117⟩ := X112.virtualBack hx (y := (⟨"com/example/epsilonet/epsilonet/service/ObservationTree$Outcome", "equals", "(Ljava/lang/Object;)Z"⟩ : MethodName)) (z := (⟨"com/example/epsilonet/epsilonet/service/ObservationTree$Outcome", "equals", "(Ljava/lang/Object;)Z"⟩ : MethodName)) hown (mvT hZ (hw _ (List.mem_of_getElem? (i := 18) rfl))) (mvT hZ (hw _ (List.mem_of_getElem? (i := 19) rfl))) (notFace_of_selects (args := #[]) (mvT hZ (hw _ (List.mem_of_getElem? (i := 21) rfl)))) (mvT hZ (hw _ (List.mem_of_getElem? (i := 21) rfl))) (mvT hZ (hw _ (List.mem_of_getElem? (i := 20) rfl))) (by decide) (backOf (W := 0) (own_rm4l l Z a0 hw [] b84 b113  T112.heap n0 (by omega) f114) hZ (hw _ (List.mem_of_getElem? (i := 22) rfl)) (hw _ (List.mem_of_getElem? (i := 2) rfl)) (by decide) (by decide)) q117a q117c (g := (mkF m 95 #[.val (.long q_1), .second, .val (.long q_2), .second, .val (.long q_3), .second, .val (.long q_4), .second, .val (.int p_5), .val (.long q_3), .second, .val (.long q_2), .second, .val (.int v83), .val (.ref b84), .val (.ref b94), .unset] [(.ref b113), (.ref b84)])) rfl (by rw [hml]; rfl) (Steps.refl _) (argsL := [(.ref b113)]) (rest := []) (lenOf own_pd3 rfl) rfl (by show 2 * 0 + _ ≤ _; exact Nat.le_of_eq rfl) (hb hby at_95) (fun _ _ => ⟨rfl, rfl, (by show k112 + _ ≤ _; rw [y112]; decide), (by show n112 + _ ≤ _; rw [z112]; decide)⟩)
          dsimp only [Pt.U, Pt.locs, Pt.cells, Pt.slots] at X117 l117 y117 z117 st117 hQ117
          have y117 : k117 = 3 := own_addeq y117 (congrArg (fun q => q) y112) rfl
          have z117 : n117 = 5 := own_addeq z117 (congrArg (fun q => q) z112) rfl
          obtain ⟨rfl, N117q, e117⟩ := hQ117
          have N117 : Fr n0 L117 := by rw [l117]; exact Fr.app N112 N117q
          refine own_go (fun _ k => st117.trans k) ?_
          show own_Go _ _ _ _ T117 (mkF m 98 #[.val (.long q_1), .second, .val (.long q_2), .second, .val (.long q_3), .second, .val (.long q_4), .second, .val (.int p_5), .val (.long q_3), .second, .val (.long q_2), .second, .val (.int v83), .val (.ref b84), .val (.ref b94), .unset] [(.int (0 : Int32))])
          have hc119 : (0 : Int32) = 0 := by decide
          refine own_go (fun _ k => XS.ifNo X117.here hx rfl (hb hby at_98) rfl (Jvm.Free.XT.i0_ne_f hc119) k) ?_
          show own_Go _ _ _ _ T117 (mkF m 101 #[.val (.long q_1), .second, .val (.long q_2), .second, .val (.long q_3), .second, .val (.long q_4), .second, .val (.int p_5), .val (.long q_3), .second, .val (.long q_2), .second, .val (.int v83), .val (.ref b84), .val (.ref b94), .unset] [])
          refine own_go (fun _ k => XS.iconst X117.here hx rfl (hb hby at_101) k) ?_
          show own_Go _ _ _ _ T117 (mkF m 102 #[.val (.long q_1), .second, .val (.long q_2), .second, .val (.long q_3), .second, .val (.long q_4), .second, .val (.int p_5), .val (.long q_3), .second, .val (.long q_2), .second, .val (.int v83), .val (.ref b84), .val (.ref b94), .unset] [(.int (1 : Int32))])
          refine own_go (fun _ k => XS.goto X117.here hx rfl (pc0 := 102) (pc' := 106) rfl (hb hby at_102) (by decide) (by decide) k) ?_
          show own_Go _ _ _ _ T117 (mkF m 106 #[.val (.long q_1), .second, .val (.long q_2), .second, .val (.long q_3), .second, .val (.long q_4), .second, .val (.int p_5), .val (.long q_3), .second, .val (.long q_2), .second, .val (.int v83), .val (.ref b84), .val (.ref b94), .unset] [(.int (1 : Int32))])
          obtain ⟨fs, hr, hrun, hended, hW, hsame⟩ := X117.leave (v := some (.int (1 : Int32))) (fun h => by rw [Bd.returns] at h; cases h)
          refine ⟨_, _, retOut X117 hx Bd.returns rfl (Or.inl ⟨rfl, Or.inr (Or.inl rfl), _, rfl⟩) (hb hby at_106) hr, hrun, hended, _, _, rfl, ?_, ⟨_, rfl⟩, hW, hsame.mono (by rw [y117]; decide) (by rw [z117]; decide)⟩
          show own_Q0 Z q_1 q_2 q_3 q_4 p_5 wsc g_ h0 n0 _ T117.heap _
          rw [e117]
          exact ⟨rfl, N117⟩
        · refine own_go (fun _ k => XS.icmpYes X96.here hx rfl (pc0 := 86) (pc' := 107) rfl (hb hby at_86) rfl (Jvm.Free.XT.ii_ne_t hc109) (by decide) (by decide) k) ?_
          show own_Go _ _ _ _ T96 (mkF m 107 #[.val (.long q_1), .second, .val (.long q_2), .second, .val (.long q_3), .second, .val (.long q_4), .second, .val (.int p_5), .val (.long q_3), .second, .val (.long q_2), .second, .val (.int v83), .val (.ref b84), .val (.ref b94), .unset] [])
          refine own_go (fun _ k => XS.lloadN X96.here hx rfl (hb hby at_107) rfl k) ?_
          show own_Go _ _ _ _ T96 (mkF m 108 #[.val (.long q_1), .second, .val (.long q_2), .second, .val (.long q_3), .second, .val (.long q_4), .second, .val (.int p_5), .val (.long q_3), .second, .val (.long q_2), .second, .val (.int v83), .val (.ref b84), .val (.ref b94), .unset] [(.long q_1)])
          refine own_go (fun _ k => XS.lload X96.here hx rfl (hb hby at_108) rfl k) ?_
          show own_Go _ _ _ _ T96 (mkF m 110 #[.val (.long q_1), .second, .val (.long q_2), .second, .val (.long q_3), .second, .val (.long q_4), .second, .val (.int p_5), .val (.long q_3), .second, .val (.long q_2), .second, .val (.int v83), .val (.ref b84), .val (.ref b94), .unset] [(.long q_3), (.long q_1)])
          refine own_go (fun _ k => XS.lcmp X96.here hx rfl (hb hby at_110) rfl k) ?_
          show own_Go _ _ _ _ T96 (mkF m 111 #[.val (.long q_1), .second, .val (.long q_2), .second, .val (.long q_3), .second, .val (.long q_4), .second, .val (.int p_5), .val (.long q_3), .second, .val (.long q_2), .second, .val (.int v83), .val (.ref b84), .val (.ref b94), .unset] [(.int (lcmpW q_1 q_3))])
          by_cases hc121 : q_1 = q_3
          · refine own_go (fun _ k => XS.ifNo X96.here hx rfl (hb hby at_111) rfl (Jvm.Free.XT.ll_ne_f hc121) k) ?_
            show own_Go _ _ _ _ T96 (mkF m 114 #[.val (.long q_1), .second, .val (.long q_2), .second, .val (.long q_3), .second, .val (.long q_4), .second, .val (.int p_5), .val (.long q_3), .second, .val (.long q_2), .second, .val (.int v83), .val (.ref b84), .val (.ref b94), .unset] [])
            refine own_go (fun _ k => XS.lloadN X96.here hx rfl (hb hby at_114) rfl k) ?_
            show own_Go _ _ _ _ T96 (mkF m 115 #[.val (.long q_1), .second, .val (.long q_2), .second, .val (.long q_3), .second, .val (.long q_4), .second, .val (.int p_5), .val (.long q_3), .second, .val (.long q_2), .second, .val (.int v83), .val (.ref b84), .val (.ref b94), .unset] [(.long q_2)])
            refine own_go (fun _ k => XS.lload X96.here hx rfl (hb hby at_115) rfl k) ?_
            show own_Go _ _ _ _ T96 (mkF m 117 #[.val (.long q_1), .second, .val (.long q_2), .second, .val (.long q_3), .second, .val (.long q_4), .second, .val (.int p_5), .val (.long q_3), .second, .val (.long q_2), .second, .val (.int v83), .val (.ref b84), .val (.ref b94), .unset] [(.long q_2), (.long q_2)])
            refine own_go (fun _ k => XS.lcmp X96.here hx rfl (hb hby at_117) rfl k) ?_
            show own_Go _ _ _ _ T96 (mkF m 118 #[.val (.long q_1), .second, .val (.long q_2), .second, .val (.long q_3), .second, .val (.long q_4), .second, .val (.int p_5), .val (.long q_3), .second, .val (.long q_2), .second, .val (.int v83), .val (.ref b84), .val (.ref b94), .unset] [(.int (lcmpW q_2 q_2))])
            have hc122 : q_2 = q_2 := rfl
            refine own_go (fun _ k => XS.ifNo X96.here hx rfl (hb hby at_118) rfl (Jvm.Free.XT.ll_ne_f hc122) k) ?_
            show own_Go _ _ _ _ T96 (mkF m 121 #[.val (.long q_1), .second, .val (.long q_2), .second, .val (.long q_3), .second, .val (.long q_4), .second, .val (.int p_5), .val (.long q_3), .second, .val (.long q_2), .second, .val (.int v83), .val (.ref b84), .val (.ref b94), .unset] [])
            refine own_go (fun _ k => XS.iconst X96.here hx rfl (hb hby at_121) k) ?_
            show own_Go _ _ _ _ T96 (mkF m 122 #[.val (.long q_1), .second, .val (.long q_2), .second, .val (.long q_3), .second, .val (.long q_4), .second, .val (.int p_5), .val (.long q_3), .second, .val (.long q_2), .second, .val (.int v83), .val (.ref b84), .val (.ref b94), .unset] [(.int (1 : Int32))])
            refine own_go (fun _ k => XS.goto X96.here hx rfl (pc0 := 122) (pc' := 126) rfl (hb hby at_122) (by decide) (by decide) k) ?_
            show own_Go _ _ _ _ T96 (mkF m 126 #[.val (.long q_1), .second, .val (.long q_2), .second, .val (.long q_3), .second, .val (.long q_4), .second, .val (.int p_5), .val (.long q_3), .second, .val (.long q_2), .second, .val (.int v83), .val (.ref b84), .val (.ref b94), .unset] [(.int (1 : Int32))])
            refine own_go (fun _ k => XS.istore X96.here hx rfl (hb hby at_126) rfl (l' := #[.val (.long q_1), .second, .val (.long q_2), .second, .val (.long q_3), .second, .val (.long q_4), .second, .val (.int p_5), .val (.long q_3), .second, .val (.long q_2), .second, .val (.int v83), .val (.ref b84), .val (.ref b94), .val (.int (1 : Int32))]) rfl k) ?_
            show own_Go _ _ _ _ T96 (mkF m 128 #[.val (.long q_1), .second, .val (.long q_2), .second, .val (.long q_3), .second, .val (.long q_4), .second, .val (.int p_5), .val (.long q_3), .second, .val (.long q_2), .second, .val (.int v83), .val (.ref b84), .val (.ref b94), .val (.int (1 : Int32))] [])
            refine own_go (fun _ k => XS.aload X96.here hx rfl (hb hby at_128) rfl rfl k) ?_
            show own_Go _ _ _ _ T96 (mkF m 130 #[.val (.long q_1), .second, .val (.long q_2), .second, .val (.long q_3), .second, .val (.long q_4), .second, .val (.int p_5), .val (.long q_3), .second, .val (.long q_2), .second, .val (.int v83), .val (.ref b84), .val (.ref b94), .val (.int (1 : Int32))] [(.ref b84)])
            refine own_go (fun _ k => XS.aload X96.here hx rfl (hb hby at_130) rfl rfl k) ?_
            show own_Go _ _ _ _ T96 (mkF m 132 #[.val (.long q_1), .second, .val (.long q_2), .second, .val (.long q_3), .second, .val (.long q_4), .second, .val (.int p_5), .val (.long q_3), .second, .val (.long q_2), .second, .val (.int v83), .val (.ref b84), .val (.ref b94), .val (.int (1 : Int32))] [(.ref b94), (.ref b84)])
            have f123 : Fld Z T96.heap b84 "com/example/epsilonet/epsilonet/service/ObservationTree$Outcome" "observed" "J" (.long q_1) := ((f88.ext E94).keep K96q (ninS (own_ne (by omega)) nin0))
            have f124 : Fld Z T96.heap b84 "com/example/epsilonet/epsilonet/service/ObservationTree$Outcome" "values" "J" (.long q_2) := ((f89.ext E94).keep K96q (ninS (own_ne (by omega)) nin0))
            have f126 : Exa Z T96.heap b84 "com/example/epsilonet/epsilonet/service/ObservationTree$Outcome" := ((f87.ext E94).keep K96q)
            obtain ⟨cq125, kq125, q125a, q125b, q125c⟩ := isOf hZ rfl f126
            obtain ⟨_, _, ⟨T125, L125, k125, n125⟩, -, X125, ⟨Lc125, hQ125, l125, y125, z125⟩, st125⟩ := X96.virtualBack hx (y := (⟨"com/example/epsilonet/epsilonet/service/ObservationTree$Outcome", "equals", "(Ljava/lang/Object;)Z"⟩ : MethodName)) (z := (⟨"com/example/epsilonet/epsilonet/service/ObservationTree$Outcome", "equals", "(Ljava/lang/Object;)Z"⟩ : MethodName)) hown (mvT hZ (hw _ (List.mem_of_getElem? (i := 18) rfl))) (mvT hZ (hw _ (List.mem_of_getElem? (i := 19) rfl))) (notFace_of_selects (args := #[]) (mvT hZ (hw _ (List.mem_of_getElem? (i := 21) rfl)))) (mvT hZ (hw _ (List.mem_of_getElem? (i := 21) rfl))) (mvT hZ (hw _ (List.mem_of_getElem? (i := 20) rfl))) (by decide) (backOf (W := 0) (own_rm4 l Z a0 hw [] b84 b94 q_1 q_3 q_2 q_2 T96.heap n0 (by omega) f97 f123 f98 f124 f99) hZ (hw _ (List.mem_of_getElem? (i := 22) rfl)) (hw _ (List.mem_of_getElem? (i := 2) rfl)) (by decide) (by decide)) q125a q125c (g := (mkF m 132 #[.val (.long q_1), .second, .val (.long q_2), .second, .val (.long q_3), .second, .val (.long q_4), .second, .val (.int p_5), .val (.long q_3), .second, .val (.long q_2), .second, .val (.int v83), .val (.ref b84), .val (.ref b94), .val (.int (1 : Int32))] [(.ref b94), (.ref b84)])) rfl (by rw [hml]; rfl) (Steps.refl _) (argsL := [(.ref b94)]) (rest := []) (lenOf own_pd3 rfl) rfl (by show 2 * 0 + _ ≤ _; exact Nat.le_of_eq rfl) (hb hby at_132) (fun _ _ => ⟨rfl, rfl, (by show k96 + _ ≤ _; rw [y96]; decide), (by show n96 + _ ≤ _; rw [z96]; decide)⟩)
            dsimp only [Pt.U, Pt.locs, Pt.cells, Pt.slots] at X125 l125 y125 z125 st125 hQ125
            have y125 : k125 = 2 := own_addeq y125 (congrArg (fun q => q) y96) rfl
            have z125 : n125 = 4 := own_addeq z125 (congrArg (fun q => q) z96) rfl
            obtain ⟨r127, rfl, N125q, hr_r127, e125⟩ := hQ125
            have N125 : Fr n0 L125 := by rw [l125]; exact Fr.app N96 N125q
            refine own_go (fun _ k => st125.trans k) ?_
            show own_Go _ _ _ _ T125 (mkF m 135 #[.val (.long q_1), .second, .val (.long q_2), .second, .val (.long q_3), .second, .val (.long q_4), .second, .val (.int p_5), .val (.long q_3), .second, .val (.long q_2), .second, .val (.int v83), .val (.ref b84), .val (.ref b94), .val (.int (1 : Int32))] [(.int r127)])
            refine own_go (fun _ k => XS.iload X125.here hx rfl (hb hby at_135) rfl k) ?_
            show own_Go _ _ _ _ T125 (mkF m 137 #[.val (.long q_1), .second, .val (.long q_2), .second, .val (.long q_3), .second, .val (.long q_4), .second, .val (.int p_5), .val (.long q_3), .second, .val (.long q_2), .second, .val (.int v83), .val (.ref b84), .val (.ref b94), .val (.int (1 : Int32))] [(.int (1 : Int32)), (.int r127)])
            have hc128 : r127 = (1 : Int32) := own_t0_9 q_1 q_2 q_3 r127 hc121 hr_r127
            refine own_go (fun _ k => XS.icmpNo X125.here hx rfl (hb hby at_137) rfl (Jvm.Free.XT.ii_ne_f hc128) k) ?_
            show own_Go _ _ _ _ T125 (mkF m 140 #[.val (.long q_1), .second, .val (.long q_2), .second, .val (.long q_3), .second, .val (.long q_4), .second, .val (.int p_5), .val (.long q_3), .second, .val (.long q_2), .second, .val (.int v83), .val (.ref b84), .val (.ref b94), .val (.int (1 : Int32))] [])
            refine own_go (fun _ k => XS.aload X125.here hx rfl (hb hby at_140) rfl rfl k) ?_
            show own_Go _ _ _ _ T125 (mkF m 142 #[.val (.long q_1), .second, .val (.long q_2), .second, .val (.long q_3), .second, .val (.long q_4), .second, .val (.int p_5), .val (.long q_3), .second, .val (.long q_2), .second, .val (.int v83), .val (.ref b84), .val (.ref b94), .val (.int (1 : Int32))] [(.ref b94)])
            refine own_go (fun _ k => XS.aload X125.here hx rfl (hb hby at_142) rfl rfl k) ?_
            show own_Go _ _ _ _ T125 (mkF m 144 #[.val (.long q_1), .second, .val (.long q_2), .second, .val (.long q_3), .second, .val (.long q_4), .second, .val (.int p_5), .val (.long q_3), .second, .val (.long q_2), .second, .val (.int v83), .val (.ref b84), .val (.ref b94), .val (.int (1 : Int32))] [(.ref b84), (.ref b94)])
            obtain ⟨cq129, kq129, q129a, q129b, q129c⟩ := isOf hZ e125 f97
            obtain ⟨_, _, ⟨T129, L129, k129, n129⟩, -, X129, ⟨Lc129, hQ129, l129, y129, z129⟩, st129⟩ := X125.virtualBack hx (y := (⟨"com/example/epsilonet/epsilonet/service/ObservationTree$Outcome", "equals", "(Ljava/lang/Object;)Z"⟩ : MethodName)) (z := (⟨"com/example/epsilonet/epsilonet/service/ObservationTree$Outcome", "equals", "(Ljava/lang/Object;)Z"⟩ : MethodName)) hown (mvT hZ (hw _ (List.mem_of_getElem? (i := 18) rfl))) (mvT hZ (hw _ (List.mem_of_getElem? (i := 19) rfl))) (notFace_of_selects (args := #[]) (mvT hZ (hw _ (List.mem_of_getElem? (i := 21) rfl)))) (mvT hZ (hw _ (List.mem_of_getElem? (i := 21) rfl))) (mvT hZ (hw _ (List.mem_of_getElem? (i := 20) rfl))) (by decide) (backOf (W := 0) (own_rm4 l Z a0 hw [] b94 b84 q_3 q_1 q_2 q_2 T96.heap n0 (by omega) f126 f98 f123 f99 f124) hZ (hw _ (List.mem_of_getElem? (i := 22) rfl)) (hw _ (List.mem_of_getElem? (i := 2) rfl)) (by decide) (by decide)) q129a q129c (g := (mkF m 144 #[.val (.long q_1), .second, .val (.long q_2), .second, .val (.long q_3), .second, .val (.long q_4), .second, .val (.int p_5), .val (.long q_3), .second, .val (.long q_2), .second, .val (.int v83), .val (.ref b84), .val (.ref b94), .val (.int (1 : Int32))] [(.ref b84), (.ref b94)])) rfl (by rw [hml]; rfl) (Steps.refl _) (argsL := [(.ref b84)]) (rest := []) (lenOf own_pd3 rfl) rfl (by show 2 * 0 + _ ≤ _; exact Nat.le_of_eq rfl) (hb hby at_144) (fun _ _ => ⟨rfl, e125, (by show k125 + _ ≤ _; rw [y125]; decide), (by show n125 + _ ≤ _; rw [z125]; decide)⟩)
            dsimp only [Pt.U, Pt.locs, Pt.cells, Pt.slots] at X129 l129 y129 z129 st129 hQ129
            have y129 : k129 = 2 := own_addeq y129 (congrArg (fun q => q) y125) rfl
            have z129 : n129 = 4 := own_addeq z129 (congrArg (fun q => q) z125) rfl
            obtain ⟨r130, rfl, N129q, hr_r130, e129⟩ := hQ129
            have N129 : Fr n0 L129 := by rw [l129]; exact Fr.app N125 N129q
            refine own_go (fun _ k => st129.trans k) ?_
            show own_Go _ _ _ _ T129 (mkF m 147 #[.val (.long q_1), .second, .val (.long q_2), .second, .val (.long q_3), .second, .val (.long q_4), .second, .val (.int p_5), .val (.long q_3), .second, .val (.long q_2), .second, .val (.int v83), .val (.ref b84), .val (.ref b94), .val (.int (1 : Int32))] [(.int r130)])
            refine own_go (fun _ k => XS.iload X129.here hx rfl (hb hby at_147) rfl k) ?_
            show own_Go _ _ _ _ T129 (mkF m 149 #[.val (.long q_1), .second, .val (.long q_2), .second, .val (.long q_3), .second, .val (.long q_4), .second, .val (.int p_5), .val (.long q_3), .second, .val (.long q_2), .second, .val (.int v83), .val (.ref b84), .val (.ref b94), .val (.int (1 : Int32))] [(.int (1 : Int32)), (.int r130)])
            have hc131 : r130 = (1 : Int32) := own_t0_10 q_1 q_2 q_3 r127 r130 hc121 hr_r127 hc128 hr_r130
            refine own_go (fun _ k => XS.icmpNo X129.here hx rfl (hb hby at_149) rfl (Jvm.Free.XT.ii_ne_f hc131) k) ?_
            show own_Go _ _ _ _ T129 (mkF m 152 #[.val (.long q_1), .second, .val (.long q_2), .second, .val (.long q_3), .second, .val (.long q_4), .second, .val (.int p_5), .val (.long q_3), .second, .val (.long q_2), .second, .val (.int v83), .val (.ref b84), .val (.ref b94), .val (.int (1 : Int32))] [])
            refine own_go (fun _ k => XS.aload X129.here hx rfl (hb hby at_152) rfl rfl k) ?_
            show own_Go _ _ _ _ T129 (mkF m 154 #[.val (.long q_1), .second, .val (.long q_2), .second, .val (.long q_3), .second, .val (.long q_4), .second, .val (.int p_5), .val (.long q_3), .second, .val (.long q_2), .second, .val (.int v83), .val (.ref b84), .val (.ref b94), .val (.int (1 : Int32))] [(.ref b84)])
            refine own_go (fun _ k => XS.aload X129.here hx rfl (hb hby at_154) rfl rfl k) ?_
            show own_Go _ _ _ _ T129 (mkF m 156 #[.val (.long q_1), .second, .val (.long q_2), .second, .val (.long q_3), .second, .val (.long q_4), .second, .val (.int p_5), .val (.long q_3), .second, .val (.long q_2), .second, .val (.int v83), .val (.ref b84), .val (.ref b94), .val (.int (1 : Int32))] [(.ref b84), (.ref b84)])
            obtain ⟨cq132, kq132, q132a, q132b, q132c⟩ := isOf hZ e129 f126
            obtain ⟨_, _, ⟨T132, L132, k132, n132⟩, -, X132, ⟨Lc132, hQ132, l132, y132, z132⟩, st132⟩ := X129.virtualBack hx (y := (⟨"com/example/epsilonet/epsilonet/service/ObservationTree$Outcome", "equals", "(Ljava/lang/Object;)Z"⟩ : MethodName)) (z := (⟨"com/example/epsilonet/epsilonet/service/ObservationTree$Outcome", "equals", "(Ljava/lang/Object;)Z"⟩ : MethodName)) hown (mvT hZ (hw _ (List.mem_of_getElem? (i := 18) rfl))) (mvT hZ (hw _ (List.mem_of_getElem? (i := 19) rfl))) (notFace_of_selects (args := #[]) (mvT hZ (hw _ (List.mem_of_getElem? (i := 21) rfl)))) (mvT hZ (hw _ (List.mem_of_getElem? (i := 21) rfl))) (mvT hZ (hw _ (List.mem_of_getElem? (i := 20) rfl))) (by decide) (backOf (W := 0) (own_rm4 l Z a0 hw [] b84 b84 q_1 q_1 q_2 q_2 T96.heap n0 (by omega) f126 f123 f123 f124 f124) hZ (hw _ (List.mem_of_getElem? (i := 22) rfl)) (hw _ (List.mem_of_getElem? (i := 2) rfl)) (by decide) (by decide)) q132a q132c (g := (mkF m 156 #[.val (.long q_1), .second, .val (.long q_2), .second, .val (.long q_3), .second, .val (.long q_4), .second, .val (.int p_5), .val (.long q_3), .second, .val (.long q_2), .second, .val (.int v83), .val (.ref b84), .val (.ref b94), .val (.int (1 : Int32))] [(.ref b84), (.ref b84)])) rfl (by rw [hml]; rfl) (Steps.refl _) (argsL := [(.ref b84)]) (rest := []) (lenOf own_pd3 rfl) rfl (by show 2 * 0 + _ ≤ _; exact Nat.le_of_eq rfl) (hb hby at_156) (fun _ _ => ⟨rfl, e129, (by show k129 + _ ≤ _; rw [y129]; decide), (by show n129 + _ ≤ _; rw [z129]; decide)⟩)
            dsimp only [Pt.U, Pt.locs, Pt.cells, Pt.slots] at X132 l132 y132 z132 st132 hQ132
            have y132 : k132 = 2 := own_addeq y132 (congrArg (fun q => q) y129) rfl
            have z132 : n132 = 4 := own_addeq z132 (congrArg (fun q => q) z129) rfl
            obtain ⟨r133, rfl, N132q, hr_r133, e132⟩ := hQ132
            have N132 : Fr n0 L132 := by rw [l132]; exact Fr.app N129 N132q
            refine own_go (fun _ k => st132.trans k) ?_
            show own_Go _ _ _ _ T132 (mkF m 159 #[.val (.long q_1), .second, .val (.long q_2), .second, .val (.long q_3), .second, .val (.long q_4), .second, .val (.int p_5), .val (.long q_3), .second, .val (.long q_2), .second, .val (.int v83), .val (.ref b84), .val (.ref b94), .val (.int (1 : Int32))] [(.int r133)])
            have hc134 : ¬ (r133 = 0) := own_t0_11 q_1 q_2 q_3 r127 r130 r133 hc121 hr_r127 hc128 hr_r130 hc131 hr_r133
            refine own_go (fun _ k => XS.ifNo X132.here hx rfl (hb hby at_159) rfl (Jvm.Free.XT.i0_eq_f hc134) k) ?_
            show own_Go _ _ _ _ T132 (mkF m 162 #[.val (.long q_1), .second, .val (.long q_2), .second, .val (.long q_3), .second, .val (.long q_4), .second, .val (.int p_5), .val (.long q_3), .second, .val (.long q_2), .second, .val (.int v83), .val (.ref b84), .val (.ref b94), .val (.int (1 : Int32))] [])
            refine own_go (fun _ k => XS.iconst X132.here hx rfl (hb hby at_162) k) ?_
            show own_Go _ _ _ _ T132 (mkF m 163 #[.val (.long q_1), .second, .val (.long q_2), .second, .val (.long q_3), .second, .val (.long q_4), .second, .val (.int p_5), .val (.long q_3), .second, .val (.long q_2), .second, .val (.int v83), .val (.ref b84), .val (.ref b94), .val (.int (1 : Int32))] [(.int (1 : Int32))])
            refine own_go (fun _ k => XS.goto X132.here hx rfl (pc0 := 163) (pc' := 167) rfl (hb hby at_163) (by decide) (by decide) k) ?_
            show own_Go _ _ _ _ T132 (mkF m 167 #[.val (.long q_1), .second, .val (.long q_2), .second, .val (.long q_3), .second, .val (.long q_4), .second, .val (.int p_5), .val (.long q_3), .second, .val (.long q_2), .second, .val (.int v83), .val (.ref b84), .val (.ref b94), .val (.int (1 : Int32))] [(.int (1 : Int32))])
            obtain ⟨fs, hr, hrun, hended, hW, hsame⟩ := X132.leave (v := some (.int (1 : Int32))) (fun h => by rw [Bd.returns] at h; cases h)
            refine ⟨_, _, retOut X132 hx Bd.returns rfl (Or.inl ⟨rfl, Or.inr (Or.inl rfl), _, rfl⟩) (hb hby at_167) hr, hrun, hended, _, _, rfl, ?_, ⟨_, rfl⟩, hW, hsame.mono (by rw [y132]; decide) (by rw [z132]; decide)⟩
            show own_Q0 Z q_1 q_2 q_3 q_4 p_5 wsc g_ h0 n0 _ T132.heap _
            rw [e132]
            exact ⟨rfl, N132⟩
          · refine own_go (fun _ k => XS.ifYes X96.here hx rfl (pc0 := 111) (pc' := 125) rfl (hb hby at_111) rfl (Jvm.Free.XT.ll_ne_t hc121) (by decide) (by decide) k) ?_
            show own_Go _ _ _ _ T96 (mkF m 125 #[.val (.long q_1), .second, .val (.long q_2), .second, .val (.long q_3), .second, .val (.long q_4), .second, .val (.int p_5), .val (.long q_3), .second, .val (.long q_2), .second, .val (.int v83), .val (.ref b84), .val (.ref b94), .unset] [])
            refine own_go (fun _ k => XS.iconst X96.here hx rfl (hb hby at_125) k) ?_
            show own_Go _ _ _ _ T96 (mkF m 126 #[.val (.long q_1), .second, .val (.long q_2), .second, .val (.long q_3), .second, .val (.long q_4), .second, .val (.int p_5), .val (.long q_3), .second, .val (.long q_2), .second, .val (.int v83), .val (.ref b84), .val (.ref b94), .unset] [(.int (0 : Int32))])
            refine own_go (fun _ k => XS.istore X96.here hx rfl (hb hby at_126) rfl (l' := #[.val (.long q_1), .second, .val (.long q_2), .second, .val (.long q_3), .second, .val (.long q_4), .second, .val (.int p_5), .val (.long q_3), .second, .val (.long q_2), .second, .val (.int v83), .val (.ref b84), .val (.ref b94), .val (.int (0 : Int32))]) rfl k) ?_
            show own_Go _ _ _ _ T96 (mkF m 128 #[.val (.long q_1), .second, .val (.long q_2), .second, .val (.long q_3), .second, .val (.long q_4), .second, .val (.int p_5), .val (.long q_3), .second, .val (.long q_2), .second, .val (.int v83), .val (.ref b84), .val (.ref b94), .val (.int (0 : Int32))] [])
            refine own_go (fun _ k => XS.aload X96.here hx rfl (hb hby at_128) rfl rfl k) ?_
            show own_Go _ _ _ _ T96 (mkF m 130 #[.val (.long q_1), .second, .val (.long q_2), .second, .val (.long q_3), .second, .val (.long q_4), .second, .val (.int p_5), .val (.long q_3), .second, .val (.long q_2), .second, .val (.int v83), .val (.ref b84), .val (.ref b94), .val (.int (0 : Int32))] [(.ref b84)])
            refine own_go (fun _ k => XS.aload X96.here hx rfl (hb hby at_130) rfl rfl k) ?_
            show own_Go _ _ _ _ T96 (mkF m 132 #[.val (.long q_1), .second, .val (.long q_2), .second, .val (.long q_3), .second, .val (.long q_4), .second, .val (.int p_5), .val (.long q_3), .second, .val (.long q_2), .second, .val (.int v83), .val (.ref b84), .val (.ref b94), .val (.int (0 : Int32))] [(.ref b94), (.ref b84)])
            have f136 : Fld Z T96.heap b84 "com/example/epsilonet/epsilonet/service/ObservationTree$Outcome" "observed" "J" (.long q_1) := ((f88.ext E94).keep K96q (ninS (own_ne (by omega)) nin0))
            have f137 : Fld Z T96.heap b84 "com/example/epsilonet/epsilonet/service/ObservationTree$Outcome" "values" "J" (.long q_2) := ((f89.ext E94).keep K96q (ninS (own_ne (by omega)) nin0))
            have f139 : Exa Z T96.heap b84 "com/example/epsilonet/epsilonet/service/ObservationTree$Outcome" := ((f87.ext E94).keep K96q)
            obtain ⟨cq138, kq138, q138a, q138b, q138c⟩ := isOf hZ rfl f139
            obtain ⟨_, _, ⟨T138, L138, k138, n138⟩, -, X138, ⟨Lc138, hQ138, l138, y138, z138⟩, st138⟩ := X96.virtualBack hx (y := (⟨"com/example/epsilonet/epsilonet/service/ObservationTree$Outcome", "equals", "(Ljava/lang/Object;)Z"⟩ : MethodName)) (z := (⟨"com/example/epsilonet/epsilonet/service/ObservationTree$Outcome", "equals", "(Ljava/lang/Object;)Z"⟩ : MethodName)) hown (mvT hZ (hw _ (List.mem_of_getElem? (i := 18) rfl))) (mvT hZ (hw _ (List.mem_of_getElem? (i := 19) rfl))) (notFace_of_selects (args := #[]) (mvT hZ (hw _ (List.mem_of_getElem? (i := 21) rfl)))) (mvT hZ (hw _ (List.mem_of_getElem? (i := 21) rfl))) (mvT hZ (hw _ (List.mem_of_getElem? (i := 20) rfl))) (by decide) (backOf (W := 0) (own_rm4 l Z a0 hw [] b84 b94 q_1 q_3 q_2 q_2 T96.heap n0 (by omega) f97 f136 f98 f137 f99) hZ (hw _ (List.mem_of_getElem? (i := 22) rfl)) (hw _ (List.mem_of_getElem? (i := 2) rfl)) (by decide) (by decide)) q138a q138c (g := (mkF m 132 #[.val (.long q_1), .second, .val (.long q_2), .second, .val (.long q_3), .second, .val (.long q_4), .second, .val (.int p_5), .val (.long q_3), .second, .val (.long q_2), .second, .val (.int v83), .val (.ref b84), .val (.ref b94), .val (.int (0 : Int32))] [(.ref b94), (.ref b84)])) rfl (by rw [hml]; rfl) (Steps.refl _) (argsL := [(.ref b94)]) (rest := []) (lenOf own_pd3 rfl) rfl (by show 2 * 0 + _ ≤ _; exact Nat.le_of_eq rfl) (hb hby at_132) (fun _ _ => ⟨rfl, rfl, (by show k96 + _ ≤ _; rw [y96]; decide), (by show n96 + _ ≤ _; rw [z96]; decide)⟩)
            dsimp only [Pt.U, Pt.locs, Pt.cells, Pt.slots] at X138 l138 y138 z138 st138 hQ138
            have y138 : k138 = 2 := own_addeq y138 (congrArg (fun q => q) y96) rfl
            have z138 : n138 = 4 := own_addeq z138 (congrArg (fun q => q) z96) rfl
            obtain ⟨r140, rfl, N138q, hr_r140, e138⟩ := hQ138
            have N138 : Fr n0 L138 := by rw [l138]; exact Fr.app N96 N138q
            refine own_go (fun _ k => st138.trans k) ?_
            show own_Go _ _ _ _ T138 (mkF m 135 #[.val (.long q_1), .second, .val (.long q_2), .second, .val (.long q_3), .second, .val (.long q_4), .second, .val (.int p_5), .val (.long q_3), .second, .val (.long q_2), .second, .val (.int v83), .val (.ref b84), .val (.ref b94), .val (.int (0 : Int32))] [(.int r140)])
            refine own_go (fun _ k => XS.iload X138.here hx rfl (hb hby at_135) rfl k) ?_
            show own_Go _ _ _ _ T138 (mkF m 137 #[.val (.long q_1), .second, .val (.long q_2), .second, .val (.long q_3), .second, .val (.long q_4), .second, .val (.int p_5), .val (.long q_3), .second, .val (.long q_2), .second, .val (.int v83), .val (.ref b84), .val (.ref b94), .val (.int (0 : Int32))] [(.int (0 : Int32)), (.int r140)])
            have hc141 : r140 = (0 : Int32) := own_t0_12 q_1 q_2 q_3 r140 hc121 hr_r140
            refine own_go (fun _ k => XS.icmpNo X138.here hx rfl (hb hby at_137) rfl (Jvm.Free.XT.ii_ne_f hc141) k) ?_
            show own_Go _ _ _ _ T138 (mkF m 140 #[.val (.long q_1), .second, .val (.long q_2), .second, .val (.long q_3), .second, .val (.long q_4), .second, .val (.int p_5), .val (.long q_3), .second, .val (.long q_2), .second, .val (.int v83), .val (.ref b84), .val (.ref b94), .val (.int (0 : Int32))] [])
            refine own_go (fun _ k => XS.aload X138.here hx rfl (hb hby at_140) rfl rfl k) ?_
            show own_Go _ _ _ _ T138 (mkF m 142 #[.val (.long q_1), .second, .val (.long q_2), .second, .val (.long q_3), .second, .val (.long q_4), .second, .val (.int p_5), .val (.long q_3), .second, .val (.long q_2), .second, .val (.int v83), .val (.ref b84), .val (.ref b94), .val (.int (0 : Int32))] [(.ref b94)])
            refine own_go (fun _ k => XS.aload X138.here hx rfl (hb hby at_142) rfl rfl k) ?_
            show own_Go _ _ _ _ T138 (mkF m 144 #[.val (.long q_1), .second, .val (.long q_2), .second, .val (.long q_3), .second, .val (.long q_4), .second, .val (.int p_5), .val (.long q_3), .second, .val (.long q_2), .second, .val (.int v83), .val (.ref b84), .val (.ref b94), .val (.int (0 : Int32))] [(.ref b84), (.ref b94)])
            obtain ⟨cq142, kq142, q142a, q142b, q142c⟩ := isOf hZ e138 f97
            obtain ⟨_, _, ⟨T142, L142, k142, n142⟩, -, X142, ⟨Lc142, hQ142, l142, y142, z142⟩, st142⟩ := X138.virtualBack hx (y := (⟨"com/example/epsilonet/epsilonet/service/ObservationTree$Outcome", "equals", "(Ljava/lang/Object;)Z"⟩ : MethodName)) (z := (⟨"com/example/epsilonet/epsilonet/service/ObservationTree$Outcome", "equals", "(Ljava/lang/Object;)Z"⟩ : MethodName)) hown (mvT hZ (hw _ (List.mem_of_getElem? (i := 18) rfl))) (mvT hZ (hw _ (List.mem_of_getElem? (i := 19) rfl))) (notFace_of_selects (args := #[]) (mvT hZ (hw _ (List.mem_of_getElem? (i := 21) rfl)))) (mvT hZ (hw _ (List.mem_of_getElem? (i := 21) rfl))) (mvT hZ (hw _ (List.mem_of_getElem? (i := 20) rfl))) (by decide) (backOf (W := 0) (own_rm4 l Z a0 hw [] b94 b84 q_3 q_1 q_2 q_2 T96.heap n0 (by omega) f139 f98 f136 f99 f137) hZ (hw _ (List.mem_of_getElem? (i := 22) rfl)) (hw _ (List.mem_of_getElem? (i := 2) rfl)) (by decide) (by decide)) q142a q142c (g := (mkF m 144 #[.val (.long q_1), .second, .val (.long q_2), .second, .val (.long q_3), .second, .val (.long q_4), .second, .val (.int p_5), .val (.long q_3), .second, .val (.long q_2), .second, .val (.int v83), .val (.ref b84), .val (.ref b94), .val (.int (0 : Int32))] [(.ref b84), (.ref b94)])) rfl (by rw [hml]; rfl) (Steps.refl _) (argsL := [(.ref b84)]) (rest := []) (lenOf own_pd3 rfl) rfl (by show 2 * 0 + _ ≤ _; exact Nat.le_of_eq rfl) (hb hby at_144) (fun _ _ => ⟨rfl, e138, (by show k138 + _ ≤ _; rw [y138]; decide), (by show n138 + _ ≤ _; rw [z138]; decide)⟩)
            dsimp only [Pt.U, Pt.locs, Pt.cells, Pt.slots] at X142 l142 y142 z142 st142 hQ142
            have y142 : k142 = 2 := own_addeq y142 (congrArg (fun q => q) y138) rfl
            have z142 : n142 = 4 := own_addeq z142 (congrArg (fun q => q) z138) rfl
            obtain ⟨r143, rfl, N142q, hr_r143, e142⟩ := hQ142
            have N142 : Fr n0 L142 := by rw [l142]; exact Fr.app N138 N142q
            refine own_go (fun _ k => st142.trans k) ?_
            show own_Go _ _ _ _ T142 (mkF m 147 #[.val (.long q_1), .second, .val (.long q_2), .second, .val (.long q_3), .second, .val (.long q_4), .second, .val (.int p_5), .val (.long q_3), .second, .val (.long q_2), .second, .val (.int v83), .val (.ref b84), .val (.ref b94), .val (.int (0 : Int32))] [(.int r143)])
            refine own_go (fun _ k => XS.iload X142.here hx rfl (hb hby at_147) rfl k) ?_
            show own_Go _ _ _ _ T142 (mkF m 149 #[.val (.long q_1), .second, .val (.long q_2), .second, .val (.long q_3), .second, .val (.long q_4), .second, .val (.int p_5), .val (.long q_3), .second, .val (.long q_2), .second, .val (.int v83), .val (.ref b84), .val (.ref b94), .val (.int (0 : Int32))] [(.int (0 : Int32)), (.int r143)])
            have hc144 : r143 = (0 : Int32) := own_t0_13 q_1 q_2 q_3 r140 r143 hc121 hr_r140 hc141 hr_r143
            refine own_go (fun _ k => XS.icmpNo X142.here hx rfl (hb hby at_149) rfl (Jvm.Free.XT.ii_ne_f hc144) k) ?_
            show own_Go _ _ _ _ T142 (mkF m 152 #[.val (.long q_1), .second, .val (.long q_2), .second, .val (.long q_3), .second, .val (.long q_4), .second, .val (.int p_5), .val (.long q_3), .second, .val (.long q_2), .second, .val (.int v83), .val (.ref b84), .val (.ref b94), .val (.int (0 : Int32))] [])
            refine own_go (fun _ k => XS.aload X142.here hx rfl (hb hby at_152) rfl rfl k) ?_
            show own_Go _ _ _ _ T142 (mkF m 154 #[.val (.long q_1), .second, .val (.long q_2), .second, .val (.long q_3), .second, .val (.long q_4), .second, .val (.int p_5), .val (.long q_3), .second, .val (.long q_2), .second, .val (.int v83), .val (.ref b84), .val (.ref b94), .val (.int (0 : Int32))] [(.ref b84)])
            refine own_go (fun _ k => XS.aload X142.here hx rfl (hb hby at_154) rfl rfl k) ?_
            show own_Go _ _ _ _ T142 (mkF m 156 #[.val (.long q_1), .second, .val (.long q_2), .second, .val (.long q_3), .second, .val (.long q_4), .second, .val (.int p_5), .val (.long q_3), .second, .val (.long q_2), .second, .val (.int v83), .val (.ref b84), .val (.ref b94), .val (.int (0 : Int32))] [(.ref b84), (.ref b84)])
            obtain ⟨cq145, kq145, q145a, q145b, q145c⟩ := isOf hZ e142 f139
            obtain ⟨_, _, ⟨T145, L145, k145, n145⟩, -, X145, ⟨Lc145, hQ145, l145, y145, z145⟩, st145⟩ := X142.virtualBack hx (y := (⟨"com/example/epsilonet/epsilonet/service/ObservationTree$Outcome", "equals", "(Ljava/lang/Object;)Z"⟩ : MethodName)) (z := (⟨"com/example/epsilonet/epsilonet/service/ObservationTree$Outcome", "equals", "(Ljava/lang/Object;)Z"⟩ : MethodName)) hown (mvT hZ (hw _ (List.mem_of_getElem? (i := 18) rfl))) (mvT hZ (hw _ (List.mem_of_getElem? (i := 19) rfl))) (notFace_of_selects (args := #[]) (mvT hZ (hw _ (List.mem_of_getElem? (i := 21) rfl)))) (mvT hZ (hw _ (List.mem_of_getElem? (i := 21) rfl))) (mvT hZ (hw _ (List.mem_of_getElem? (i := 20) rfl))) (by decide) (backOf (W := 0) (own_rm4 l Z a0 hw [] b84 b84 q_1 q_1 q_2 q_2 T96.heap n0 (by omega) f139 f136 f136 f137 f137) hZ (hw _ (List.mem_of_getElem? (i := 22) rfl)) (hw _ (List.mem_of_getElem? (i := 2) rfl)) (by decide) (by decide)) q145a q145c (g := (mkF m 156 #[.val (.long q_1), .second, .val (.long q_2), .second, .val (.long q_3), .second, .val (.long q_4), .second, .val (.int p_5), .val (.long q_3), .second, .val (.long q_2), .second, .val (.int v83), .val (.ref b84), .val (.ref b94), .val (.int (0 : Int32))] [(.ref b84), (.ref b84)])) rfl (by rw [hml]; rfl) (Steps.refl _) (argsL := [(.ref b84)]) (rest := []) (lenOf own_pd3 rfl) rfl (by show 2 * 0 + _ ≤ _; exact Nat.le_of_eq rfl) (hb hby at_156) (fun _ _ => ⟨rfl, e142, (by show k142 + _ ≤ _; rw [y142]; decide), (by show n142 + _ ≤ _; rw [z142]; decide)⟩)
            dsimp only [Pt.U, Pt.locs, Pt.cells, Pt.slots] at X145 l145 y145 z145 st145 hQ145
            have y145 : k145 = 2 := own_addeq y145 (congrArg (fun q => q) y142) rfl
            have z145 : n145 = 4 := own_addeq z145 (congrArg (fun q => q) z142) rfl
            obtain ⟨r146, rfl, N145q, hr_r146, e145⟩ := hQ145
            have N145 : Fr n0 L145 := by rw [l145]; exact Fr.app N142 N145q
            refine own_go (fun _ k => st145.trans k) ?_
            show own_Go _ _ _ _ T145 (mkF m 159 #[.val (.long q_1), .second, .val (.long q_2), .second, .val (.long q_3), .second, .val (.long q_4), .second, .val (.int p_5), .val (.long q_3), .second, .val (.long q_2), .second, .val (.int v83), .val (.ref b84), .val (.ref b94), .val (.int (0 : Int32))] [(.int r146)])
            have hc147 : ¬ (r146 = 0) := own_t0_14 q_1 q_2 q_3 r140 r143 r146 hc121 hr_r140 hc141 hr_r143 hc144 hr_r146
            refine own_go (fun _ k => XS.ifNo X145.here hx rfl (hb hby at_159) rfl (Jvm.Free.XT.i0_eq_f hc147) k) ?_
            show own_Go _ _ _ _ T145 (mkF m 162 #[.val (.long q_1), .second, .val (.long q_2), .second, .val (.long q_3), .second, .val (.long q_4), .second, .val (.int p_5), .val (.long q_3), .second, .val (.long q_2), .second, .val (.int v83), .val (.ref b84), .val (.ref b94), .val (.int (0 : Int32))] [])
            refine own_go (fun _ k => XS.iconst X145.here hx rfl (hb hby at_162) k) ?_
            show own_Go _ _ _ _ T145 (mkF m 163 #[.val (.long q_1), .second, .val (.long q_2), .second, .val (.long q_3), .second, .val (.long q_4), .second, .val (.int p_5), .val (.long q_3), .second, .val (.long q_2), .second, .val (.int v83), .val (.ref b84), .val (.ref b94), .val (.int (0 : Int32))] [(.int (1 : Int32))])
            refine own_go (fun _ k => XS.goto X145.here hx rfl (pc0 := 163) (pc' := 167) rfl (hb hby at_163) (by decide) (by decide) k) ?_
            show own_Go _ _ _ _ T145 (mkF m 167 #[.val (.long q_1), .second, .val (.long q_2), .second, .val (.long q_3), .second, .val (.long q_4), .second, .val (.int p_5), .val (.long q_3), .second, .val (.long q_2), .second, .val (.int v83), .val (.ref b84), .val (.ref b94), .val (.int (0 : Int32))] [(.int (1 : Int32))])
            obtain ⟨fs, hr, hrun, hended, hW, hsame⟩ := X145.leave (v := some (.int (1 : Int32))) (fun h => by rw [Bd.returns] at h; cases h)
            refine ⟨_, _, retOut X145 hx Bd.returns rfl (Or.inl ⟨rfl, Or.inr (Or.inl rfl), _, rfl⟩) (hb hby at_167) hr, hrun, hended, _, _, rfl, ?_, ⟨_, rfl⟩, hW, hsame.mono (by rw [y145]; decide) (by rw [z145]; decide)⟩
            show own_Q0 Z q_1 q_2 q_3 q_4 p_5 wsc g_ h0 n0 _ T145.heap _
            rw [e145]
            exact ⟨rfl, N145⟩
  · refine own_go (fun _ k => XS.ifNo X0.here hx rfl (hb hby at_4) rfl (Jvm.Free.XT.i0_eq_f hc2) k) ?_
    show own_Go _ _ _ _ s₁ (mkF m 7 #[.val (.long q_1), .second, .val (.long q_2), .second, .val (.long q_3), .second, .val (.long q_4), .second, .val (.int p_5), .unset, .unset, .unset, .unset, .unset, .unset, .unset, .unset] [])
    refine own_go (fun _ k => XS.lloadN X0.here hx rfl (hb hby at_7) rfl k) ?_
    show own_Go _ _ _ _ s₁ (mkF m 8 #[.val (.long q_1), .second, .val (.long q_2), .second, .val (.long q_3), .second, .val (.long q_4), .second, .val (.int p_5), .unset, .unset, .unset, .unset, .unset, .unset, .unset, .unset] [(.long q_1)])
    refine own_go (fun _ k => XS.goto X0.here hx rfl (pc0 := 8) (pc' := 13) rfl (hb hby at_8) (by decide) (by decide) k) ?_
    show own_Go _ _ _ _ s₁ (mkF m 13 #[.val (.long q_1), .second, .val (.long q_2), .second, .val (.long q_3), .second, .val (.long q_4), .second, .val (.int p_5), .unset, .unset, .unset, .unset, .unset, .unset, .unset, .unset] [(.long q_1)])
    refine own_go (fun _ k => XS.lstore X0.here hx rfl (hb hby at_13) rfl (l' := #[.val (.long q_1), .second, .val (.long q_2), .second, .val (.long q_3), .second, .val (.long q_4), .second, .val (.int p_5), .val (.long q_1), .second, .unset, .unset, .unset, .unset, .unset, .unset]) rfl k) ?_
    show own_Go _ _ _ _ s₁ (mkF m 15 #[.val (.long q_1), .second, .val (.long q_2), .second, .val (.long q_3), .second, .val (.long q_4), .second, .val (.int p_5), .val (.long q_1), .second, .unset, .unset, .unset, .unset, .unset, .unset] [])
    refine own_go (fun _ k => XS.iload X0.here hx rfl (hb hby at_15) rfl k) ?_
    show own_Go _ _ _ _ s₁ (mkF m 17 #[.val (.long q_1), .second, .val (.long q_2), .second, .val (.long q_3), .second, .val (.long q_4), .second, .val (.int p_5), .val (.long q_1), .second, .unset, .unset, .unset, .unset, .unset, .unset] [(.int p_5)])
    refine own_go (fun _ k => XS.iconst X0.here hx rfl (hb hby at_17) k) ?_
    show own_Go _ _ _ _ s₁ (mkF m 18 #[.val (.long q_1), .second, .val (.long q_2), .second, .val (.long q_3), .second, .val (.long q_4), .second, .val (.int p_5), .val (.long q_1), .second, .unset, .unset, .unset, .unset, .unset, .unset] [(.int (2 : Int32)), (.int p_5)])
    refine own_go (fun _ k => XS.iand X0.here hx rfl (hb hby at_18) rfl k) ?_
    show own_Go _ _ _ _ s₁ (mkF m 19 #[.val (.long q_1), .second, .val (.long q_2), .second, .val (.long q_3), .second, .val (.long q_4), .second, .val (.int p_5), .val (.long q_1), .second, .unset, .unset, .unset, .unset, .unset, .unset] [(.int (p_5 &&& (2 : Int32)))])
    by_cases hc149 : (p_5 &&& (2 : Int32)) = 0
    · refine own_go (fun _ k => XS.ifYes X0.here hx rfl (pc0 := 19) (pc' := 26) rfl (hb hby at_19) rfl (Jvm.Free.XT.i0_eq_t hc149) (by decide) (by decide) k) ?_
      show own_Go _ _ _ _ s₁ (mkF m 26 #[.val (.long q_1), .second, .val (.long q_2), .second, .val (.long q_3), .second, .val (.long q_4), .second, .val (.int p_5), .val (.long q_1), .second, .unset, .unset, .unset, .unset, .unset, .unset] [])
      refine own_go (fun _ k => XS.lload X0.here hx rfl (hb hby at_26) rfl k) ?_
      show own_Go _ _ _ _ s₁ (mkF m 28 #[.val (.long q_1), .second, .val (.long q_2), .second, .val (.long q_3), .second, .val (.long q_4), .second, .val (.int p_5), .val (.long q_1), .second, .unset, .unset, .unset, .unset, .unset, .unset] [(.long q_4)])
      refine own_go (fun _ k => XS.lstore X0.here hx rfl (hb hby at_28) rfl (l' := #[.val (.long q_1), .second, .val (.long q_2), .second, .val (.long q_3), .second, .val (.long q_4), .second, .val (.int p_5), .val (.long q_1), .second, .val (.long q_4), .second, .unset, .unset, .unset, .unset]) rfl k) ?_
      show own_Go _ _ _ _ s₁ (mkF m 30 #[.val (.long q_1), .second, .val (.long q_2), .second, .val (.long q_3), .second, .val (.long q_4), .second, .val (.int p_5), .val (.long q_1), .second, .val (.long q_4), .second, .unset, .unset, .unset, .unset] [])
      refine own_go (fun _ k => XS.iload X0.here hx rfl (hb hby at_30) rfl k) ?_
      show own_Go _ _ _ _ s₁ (mkF m 32 #[.val (.long q_1), .second, .val (.long q_2), .second, .val (.long q_3), .second, .val (.long q_4), .second, .val (.int p_5), .val (.long q_1), .second, .val (.long q_4), .second, .unset, .unset, .unset, .unset] [(.int p_5)])
      refine own_go (fun _ k => XS.iconst X0.here hx rfl (hb hby at_32) k) ?_
      show own_Go _ _ _ _ s₁ (mkF m 33 #[.val (.long q_1), .second, .val (.long q_2), .second, .val (.long q_3), .second, .val (.long q_4), .second, .val (.int p_5), .val (.long q_1), .second, .val (.long q_4), .second, .unset, .unset, .unset, .unset] [(.int (2 : Int32)), (.int p_5)])
      refine own_go (fun _ k => XS.iushr X0.here hx rfl (hb hby at_33) rfl k) ?_
      show own_Go _ _ _ _ s₁ (mkF m 34 #[.val (.long q_1), .second, .val (.long q_2), .second, .val (.long q_3), .second, .val (.long q_4), .second, .val (.int p_5), .val (.long q_1), .second, .val (.long q_4), .second, .unset, .unset, .unset, .unset] [(.int ((p_5.toUInt32 >>> ((2 : Int32) &&& 31).toUInt32).toInt32))])
      refine own_go (fun _ k => XS.iconst X0.here hx rfl (hb hby at_34) k) ?_
      show own_Go _ _ _ _ s₁ (mkF m 35 #[.val (.long q_1), .second, .val (.long q_2), .second, .val (.long q_3), .second, .val (.long q_4), .second, .val (.int p_5), .val (.long q_1), .second, .val (.long q_4), .second, .unset, .unset, .unset, .unset] [(.int (3 : Int32)), (.int ((p_5.toUInt32 >>> ((2 : Int32) &&& 31).toUInt32).toInt32))])
      refine own_go (fun _ k => XS.iand X0.here hx rfl (hb hby at_35) rfl k) ?_
      show own_Go _ _ _ _ s₁ (mkF m 36 #[.val (.long q_1), .second, .val (.long q_2), .second, .val (.long q_3), .second, .val (.long q_4), .second, .val (.int p_5), .val (.long q_1), .second, .val (.long q_4), .second, .unset, .unset, .unset, .unset] [(.int (((p_5.toUInt32 >>> ((2 : Int32) &&& 31).toUInt32).toInt32) &&& (3 : Int32)))])
      refine own_go (fun _ k => XS.istore X0.here hx rfl (hb hby at_36) rfl (l' := #[.val (.long q_1), .second, .val (.long q_2), .second, .val (.long q_3), .second, .val (.long q_4), .second, .val (.int p_5), .val (.long q_1), .second, .val (.long q_4), .second, .val (.int (((p_5.toUInt32 >>> ((2 : Int32) &&& 31).toUInt32).toInt32) &&& (3 : Int32))), .unset, .unset, .unset]) rfl k) ?_
      show own_Go _ _ _ _ s₁ (mkF m 38 #[.val (.long q_1), .second, .val (.long q_2), .second, .val (.long q_3), .second, .val (.long q_4), .second, .val (.int p_5), .val (.long q_1), .second, .val (.long q_4), .second, .val (.int (((p_5.toUInt32 >>> ((2 : Int32) &&& 31).toUInt32).toInt32) &&& (3 : Int32))), .unset, .unset, .unset] [])
      generalize hdv150 : (((p_5.toUInt32 >>> ((2 : Int32) &&& 31).toUInt32).toInt32) &&& (3 : Int32)) = v150
      show own_Go _ _ _ _ s₁ (mkF m 38 #[.val (.long q_1), .second, .val (.long q_2), .second, .val (.long q_3), .second, .val (.long q_4), .second, .val (.int p_5), .val (.long q_1), .second, .val (.long q_4), .second, .val (.int v150), .unset, .unset, .unset] [])
      obtain ⟨T151, h151, X151, e151, E151, A151, D151, Y151, st151⟩ := newO X0 hx hZ hown (hw _ (List.mem_of_getElem? (i := 0) rfl)) (hw _ (List.mem_of_getElem? (i := 1) rfl)) (hw _ (List.mem_of_getElem? (i := 2) rfl)) e0 (g := (mkF m 38 #[.val (.long q_1), .second, .val (.long q_2), .second, .val (.long q_3), .second, .val (.long q_4), .second, .val (.int p_5), .val (.long q_1), .second, .val (.long q_4), .second, .val (.int v150), .unset, .unset, .unset] [])) rfl (hb hby at_38) (by decide) (by decide)
      obtain ⟨b151, g151⟩ : ∃ z, z = h0.size := ⟨_, rfl⟩
      rw [← g151] at A151 D151 Y151 st151
      have z152 := E151.1
      have lt_b151 := own_lt A151.lt
      have K151 : Keep h0 h151 [] := K0.ext E151
      have F_observed_b151 : Fld Z h151 b151 "com/example/epsilonet/epsilonet/service/ObservationTree$Outcome" "observed" "J" (.long (0 : Int64)) := D151 (Or.inr (hw _ (List.mem_of_getElem? (i := 15) rfl))) (ty := .long) (by decide)
      have F_values_b151 : Fld Z h151 b151 "com/example/epsilonet/epsilonet/service/ObservationTree$Outcome" "values" "J" (.long (0 : Int64)) := D151 (Or.inr (hw _ (List.mem_of_getElem? (i := 17) rfl))) (ty := .long) (by decide)
      refine own_go (fun _ k => st151 _ k) ?_
      show own_Go _ _ _ _ T151 (mkF m 41 #[.val (.long q_1), .second, .val (.long q_2), .second, .val (.long q_3), .second, .val (.long q_4), .second, .val (.int p_5), .val (.long q_1), .second, .val (.long q_4), .second, .val (.int v150), .unset, .unset, .unset] [(.ref b151)])
      refine own_go (fun _ k => XS.dup X151.here hx rfl (hb hby at_41) rfl rfl k) ?_
      show own_Go _ _ _ _ T151 (mkF m 42 #[.val (.long q_1), .second, .val (.long q_2), .second, .val (.long q_3), .second, .val (.long q_4), .second, .val (.int p_5), .val (.long q_1), .second, .val (.long q_4), .second, .val (.int v150), .unset, .unset, .unset] [(.ref b151), (.ref b151)])
      refine own_go (fun _ k => XS.lloadN X151.here hx rfl (hb hby at_42) rfl k) ?_
      show own_Go _ _ _ _ T151 (mkF m 43 #[.val (.long q_1), .second, .val (.long q_2), .second, .val (.long q_3), .second, .val (.long q_4), .second, .val (.int p_5), .val (.long q_1), .second, .val (.long q_4), .second, .val (.int v150), .unset, .unset, .unset] [(.long q_1), (.ref b151), (.ref b151)])
      refine own_go (fun _ k => XS.lloadN X151.here hx rfl (hb hby at_43) rfl k) ?_
      show own_Go _ _ _ _ T151 (mkF m 44 #[.val (.long q_1), .second, .val (.long q_2), .second, .val (.long q_3), .second, .val (.long q_4), .second, .val (.int p_5), .val (.long q_1), .second, .val (.long q_4), .second, .val (.int v150), .unset, .unset, .unset] [(.long q_2), (.long q_1), (.ref b151), (.ref b151)])
      obtain ⟨_, _, ⟨T153, L153, k153, n153⟩, -, X153, ⟨Lc153, hQ153, l153, y153, z153⟩, st153⟩ := X151.specialBack hx (y := (⟨"com/example/epsilonet/epsilonet/service/ObservationTree$Outcome", "<init>", "(JJ)V"⟩ : MethodName)) rfl hown (mvT hZ (hw _ (List.mem_of_getElem? (i := 3) rfl))) (mvT hZ (hw _ (List.mem_of_getElem? (i := 4) rfl))) (mvT hZ (hw _ (List.mem_of_getElem? (i := 5) rfl))) (by decide) (backOf (W := 1) (own_rm1 l Z a0 hw [] b151 q_1 q_2 (0 : Int64) (0 : Int64) h151 n0 (by omega) A151 F_observed_b151 F_values_b151 (by omega)) hZ (hw _ (List.mem_of_getElem? (i := 5) rfl)) (hw _ (List.mem_of_getElem? (i := 2) rfl)) (by decide) (by decide)) (g := (mkF m 44 #[.val (.long q_1), .second, .val (.long q_2), .second, .val (.long q_3), .second, .val (.long q_4), .second, .val (.int p_5), .val (.long q_1), .second, .val (.long q_4), .second, .val (.int v150), .unset, .unset, .unset] [(.long q_2), (.long q_1), (.ref b151), (.ref b151)])) rfl (by rw [hml]; rfl) (Steps.refl _) (a := b151) (argsL := [(.long q_1), (.long q_2)]) (rest := [(.ref b151)]) (lenOf own_pd2 rfl) rfl (by show 2 * 0 + _ ≤ _; exact Nat.le_of_eq rfl) (hb hby at_44) (fun _ _ => ⟨rfl, e151, (by decide : 1 + 0 ≤ _), (by decide : 2 + 0 ≤ _)⟩)
      dsimp only [Pt.U, Pt.locs, Pt.cells, Pt.slots] at X153 l153 y153 z153 st153 hQ153
      have y153 : k153 = 1 := y153
      have z153 : n153 = 2 := z153
      obtain ⟨rfl, N153q, K153q, f154, f155, f156⟩ := hQ153
      have N153 : Fr n0 L153 := by rw [l153]; exact Fr.app N0 N153q
      have z157 := K153q.1
      have K153 : Keep h0 T153.heap [] := K151.trans K153q (allS (Or.inr (by omega)) all0)
      have z158 := own_lt f154.lt
      have z159 := own_lt f155.lt
      have z160 := own_lt f156.lt
      refine own_go (fun _ k => st153.trans k) ?_
      show own_Go _ _ _ _ T153 (mkF m 47 #[.val (.long q_1), .second, .val (.long q_2), .second, .val (.long q_3), .second, .val (.long q_4), .second, .val (.int p_5), .val (.long q_1), .second, .val (.long q_4), .second, .val (.int v150), .unset, .unset, .unset] [(.ref b151)])
      refine own_go (fun _ k => XS.astore X153.here hx rfl (hb hby at_47) rfl rfl (l' := #[.val (.long q_1), .second, .val (.long q_2), .second, .val (.long q_3), .second, .val (.long q_4), .second, .val (.int p_5), .val (.long q_1), .second, .val (.long q_4), .second, .val (.int v150), .val (.ref b151), .unset, .unset]) rfl k) ?_
      show own_Go _ _ _ _ T153 (mkF m 49 #[.val (.long q_1), .second, .val (.long q_2), .second, .val (.long q_3), .second, .val (.long q_4), .second, .val (.int p_5), .val (.long q_1), .second, .val (.long q_4), .second, .val (.int v150), .val (.ref b151), .unset, .unset] [])
      obtain ⟨T161, h161, X161, e161, E161, A161, D161, Y161, st161⟩ := newO X153 hx hZ hown (hw _ (List.mem_of_getElem? (i := 0) rfl)) (hw _ (List.mem_of_getElem? (i := 1) rfl)) (hw _ (List.mem_of_getElem? (i := 2) rfl)) rfl (g := (mkF m 49 #[.val (.long q_1), .second, .val (.long q_2), .second, .val (.long q_3), .second, .val (.long q_4), .second, .val (.int p_5), .val (.long q_1), .second, .val (.long q_4), .second, .val (.int v150), .val (.ref b151), .unset, .unset] [])) rfl (hb hby at_49) (by rw [y153]; decide) (by rw [z153]; decide)
      obtain ⟨b161, g161⟩ : ∃ z, z = T153.heap.size := ⟨_, rfl⟩
      rw [← g161] at A161 D161 Y161 st161
      have z162 := E161.1
      have lt_b161 := own_lt A161.lt
      have K161 : Keep h0 h161 [] := K153.ext E161
      have F_observed_b161 : Fld Z h161 b161 "com/example/epsilonet/epsilonet/service/ObservationTree$Outcome" "observed" "J" (.long (0 : Int64)) := D161 (Or.inr (hw _ (List.mem_of_getElem? (i := 15) rfl))) (ty := .long) (by decide)
      have F_values_b161 : Fld Z h161 b161 "com/example/epsilonet/epsilonet/service/ObservationTree$Outcome" "values" "J" (.long (0 : Int64)) := D161 (Or.inr (hw _ (List.mem_of_getElem? (i := 17) rfl))) (ty := .long) (by decide)
      refine own_go (fun _ k => st161 _ k) ?_
      show own_Go _ _ _ _ T161 (mkF m 52 #[.val (.long q_1), .second, .val (.long q_2), .second, .val (.long q_3), .second, .val (.long q_4), .second, .val (.int p_5), .val (.long q_1), .second, .val (.long q_4), .second, .val (.int v150), .val (.ref b151), .unset, .unset] [(.ref b161)])
      refine own_go (fun _ k => XS.dup X161.here hx rfl (hb hby at_52) rfl rfl k) ?_
      show own_Go _ _ _ _ T161 (mkF m 53 #[.val (.long q_1), .second, .val (.long q_2), .second, .val (.long q_3), .second, .val (.long q_4), .second, .val (.int p_5), .val (.long q_1), .second, .val (.long q_4), .second, .val (.int v150), .val (.ref b151), .unset, .unset] [(.ref b161), (.ref b161)])
      refine own_go (fun _ k => XS.lload X161.here hx rfl (hb hby at_53) rfl k) ?_
      show own_Go _ _ _ _ T161 (mkF m 55 #[.val (.long q_1), .second, .val (.long q_2), .second, .val (.long q_3), .second, .val (.long q_4), .second, .val (.int p_5), .val (.long q_1), .second, .val (.long q_4), .second, .val (.int v150), .val (.ref b151), .unset, .unset] [(.long q_1), (.ref b161), (.ref b161)])
      refine own_go (fun _ k => XS.lload X161.here hx rfl (hb hby at_55) rfl k) ?_
      show own_Go _ _ _ _ T161 (mkF m 57 #[.val (.long q_1), .second, .val (.long q_2), .second, .val (.long q_3), .second, .val (.long q_4), .second, .val (.int p_5), .val (.long q_1), .second, .val (.long q_4), .second, .val (.int v150), .val (.ref b151), .unset, .unset] [(.long q_4), (.long q_1), (.ref b161), (.ref b161)])
      obtain ⟨_, _, ⟨T163, L163, k163, n163⟩, -, X163, ⟨Lc163, hQ163, l163, y163, z163⟩, st163⟩ := X161.specialBack hx (y := (⟨"com/example/epsilonet/epsilonet/service/ObservationTree$Outcome", "<init>", "(JJ)V"⟩ : MethodName)) rfl hown (mvT hZ (hw _ (List.mem_of_getElem? (i := 3) rfl))) (mvT hZ (hw _ (List.mem_of_getElem? (i := 4) rfl))) (mvT hZ (hw _ (List.mem_of_getElem? (i := 5) rfl))) (by decide) (backOf (W := 1) (own_rm1 l Z a0 hw [] b161 q_1 q_4 (0 : Int64) (0 : Int64) h161 n0 (by omega) A161 F_observed_b161 F_values_b161 (by omega)) hZ (hw _ (List.mem_of_getElem? (i := 5) rfl)) (hw _ (List.mem_of_getElem? (i := 2) rfl)) (by decide) (by decide)) (g := (mkF m 57 #[.val (.long q_1), .second, .val (.long q_2), .second, .val (.long q_3), .second, .val (.long q_4), .second, .val (.int p_5), .val (.long q_1), .second, .val (.long q_4), .second, .val (.int v150), .val (.ref b151), .unset, .unset] [(.long q_4), (.long q_1), (.ref b161), (.ref b161)])) rfl (by rw [hml]; rfl) (Steps.refl _) (a := b161) (argsL := [(.long q_1), (.long q_4)]) (rest := [(.ref b161)]) (lenOf own_pd2 rfl) rfl (by show 2 * 0 + _ ≤ _; exact Nat.le_of_eq rfl) (hb hby at_57) (fun _ _ => ⟨rfl, e161, (by show k153 + 1 + _ ≤ _; rw [y153]; decide), (by show n153 + 2 + _ ≤ _; rw [z153]; decide)⟩)
      dsimp only [Pt.U, Pt.locs, Pt.cells, Pt.slots] at X163 l163 y163 z163 st163 hQ163
      have y163 : k163 = 2 := own_addeq y163 (congrArg (fun q => q + 1) y153) rfl
      have z163 : n163 = 4 := own_addeq z163 (congrArg (fun q => q + 2) z153) rfl
      obtain ⟨rfl, N163q, K163q, f164, f165, f166⟩ := hQ163
      have N163 : Fr n0 L163 := by rw [l163]; exact Fr.app N153 N163q
      have z167 := K163q.1
      have K163 : Keep h0 T163.heap [] := K161.trans K163q (allS (Or.inr (by omega)) all0)
      have z168 := own_lt f164.lt
      have z169 := own_lt f165.lt
      have z170 := own_lt f166.lt
      refine own_go (fun _ k => st163.trans k) ?_
      show own_Go _ _ _ _ T163 (mkF m 60 #[.val (.long q_1), .second, .val (.long q_2), .second, .val (.long q_3), .second, .val (.long q_4), .second, .val (.int p_5), .val (.long q_1), .second, .val (.long q_4), .second, .val (.int v150), .val (.ref b151), .unset, .unset] [(.ref b161)])
      refine own_go (fun _ k => XS.astore X163.here hx rfl (hb hby at_60) rfl rfl (l' := #[.val (.long q_1), .second, .val (.long q_2), .second, .val (.long q_3), .second, .val (.long q_4), .second, .val (.int p_5), .val (.long q_1), .second, .val (.long q_4), .second, .val (.int v150), .val (.ref b151), .val (.ref b161), .unset]) rfl k) ?_
      show own_Go _ _ _ _ T163 (mkF m 62 #[.val (.long q_1), .second, .val (.long q_2), .second, .val (.long q_3), .second, .val (.long q_4), .second, .val (.int p_5), .val (.long q_1), .second, .val (.long q_4), .second, .val (.int v150), .val (.ref b151), .val (.ref b161), .unset] [])
      refine own_go (fun _ k => XS.iload X163.here hx rfl (hb hby at_62) rfl k) ?_
      show own_Go _ _ _ _ T163 (mkF m 64 #[.val (.long q_1), .second, .val (.long q_2), .second, .val (.long q_3), .second, .val (.long q_4), .second, .val (.int p_5), .val (.long q_1), .second, .val (.long q_4), .second, .val (.int v150), .val (.ref b151), .val (.ref b161), .unset] [(.int v150)])
      refine own_go (fun _ k => XS.iconst X163.here hx rfl (hb hby at_64) k) ?_
      show own_Go _ _ _ _ T163 (mkF m 65 #[.val (.long q_1), .second, .val (.long q_2), .second, .val (.long q_3), .second, .val (.long q_4), .second, .val (.int p_5), .val (.long q_1), .second, .val (.long q_4), .second, .val (.int v150), .val (.ref b151), .val (.ref b161), .unset] [(.int (1 : Int32)), (.int v150)])
      by_cases hc171 : v150 = (1 : Int32)
      · refine own_go (fun _ k => XS.icmpNo X163.here hx rfl (hb hby at_65) rfl (Jvm.Free.XT.ii_ne_f hc171) k) ?_
        show own_Go _ _ _ _ T163 (mkF m 68 #[.val (.long q_1), .second, .val (.long q_2), .second, .val (.long q_3), .second, .val (.long q_4), .second, .val (.int p_5), .val (.long q_1), .second, .val (.long q_4), .second, .val (.int v150), .val (.ref b151), .val (.ref b161), .unset] [])
        refine own_go (fun _ k => XS.aload X163.here hx rfl (hb hby at_68) rfl rfl k) ?_
        show own_Go _ _ _ _ T163 (mkF m 70 #[.val (.long q_1), .second, .val (.long q_2), .second, .val (.long q_3), .second, .val (.long q_4), .second, .val (.int p_5), .val (.long q_1), .second, .val (.long q_4), .second, .val (.int v150), .val (.ref b151), .val (.ref b161), .unset] [(.ref b151)])
        refine own_go (fun _ k => XS.aconstNull X163.here hx rfl (hb hby at_70) k) ?_
        show own_Go _ _ _ _ T163 (mkF m 71 #[.val (.long q_1), .second, .val (.long q_2), .second, .val (.long q_3), .second, .val (.long q_4), .second, .val (.int p_5), .val (.long q_1), .second, .val (.long q_4), .second, .val (.int v150), .val (.ref b151), .val (.ref b161), .unset] [.null, (.ref b151)])
        have f173 : Exa Z T163.heap b151 "com/example/epsilonet/epsilonet/service/ObservationTree$Outcome" := ((f154.ext E161).keep K163q)
        obtain ⟨cq172, kq172, q172a, q172b, q172c⟩ := isOf hZ rfl f173
        obtain ⟨_, _, ⟨T172, L172, k172, n172⟩, -, X172, ⟨Lc172, hQ172, l172, y172, z172⟩, st172⟩ := X163.virtualBack hx (y := (⟨"com/example/epsilonet/epsilonet/service/ObservationTree$Outcome", "equals", "(Ljava/lang/Object;)Z"⟩ : MethodName)) (z := (⟨"com/example/epsilonet/epsilonet/service/ObservationTree$Outcome", "equals", "(Ljava/lang/Object;)Z"⟩ : MethodName)) hown (mvT hZ (hw _ (List.mem_of_getElem? (i := 18) rfl))) (mvT hZ (hw _ (List.mem_of_getElem? (i := 19) rfl))) (notFace_of_selects (args := #[]) (mvT hZ (hw _ (List.mem_of_getElem? (i := 21) rfl)))) (mvT hZ (hw _ (List.mem_of_getElem? (i := 21) rfl))) (mvT hZ (hw _ (List.mem_of_getElem? (i := 20) rfl))) (by decide) (backOf (W := 0) (own_rm4n l Z a0 hw [] b151  T163.heap n0 (by omega) ) hZ (hw _ (List.mem_of_getElem? (i := 22) rfl)) (hw _ (List.mem_of_getElem? (i := 2) rfl)) (by decide) (by decide)) q172a q172c (g := (mkF m 71 #[.val (.long q_1), .second, .val (.long q_2), .second, .val (.long q_3), .second, .val (.long q_4), .second, .val (.int p_5), .val (.long q_1), .second, .val (.long q_4), .second, .val (.int v150), .val (.ref b151), .val (.ref b161), .unset] [.null, (.ref b151)])) rfl (by rw [hml]; rfl) (Steps.refl _) (argsL := [.null]) (rest := []) (lenOf own_pd3 rfl) rfl (by show 2 * 0 + _ ≤ _; exact Nat.le_of_eq rfl) (hb hby at_71) (fun _ _ => ⟨rfl, rfl, (by show k163 + _ ≤ _; rw [y163]; decide), (by show n163 + _ ≤ _; rw [z163]; decide)⟩)
        dsimp only [Pt.U, Pt.locs, Pt.cells, Pt.slots] at X172 l172 y172 z172 st172 hQ172
        have y172 : k172 = 2 := own_addeq y172 (congrArg (fun q => q) y163) rfl
        have z172 : n172 = 4 := own_addeq z172 (congrArg (fun q => q) z163) rfl
        obtain ⟨rfl, N172q, e172⟩ := hQ172
        have N172 : Fr n0 L172 := by rw [l172]; exact Fr.app N163 N172q
        refine own_go (fun _ k => st172.trans k) ?_
        show own_Go _ _ _ _ T172 (mkF m 74 #[.val (.long q_1), .second, .val (.long q_2), .second, .val (.long q_3), .second, .val (.long q_4), .second, .val (.int p_5), .val (.long q_1), .second, .val (.long q_4), .second, .val (.int v150), .val (.ref b151), .val (.ref b161), .unset] [(.int (0 : Int32))])
        have hc174 : (0 : Int32) = 0 := by decide
        refine own_go (fun _ k => XS.ifNo X172.here hx rfl (hb hby at_74) rfl (Jvm.Free.XT.i0_ne_f hc174) k) ?_
        show own_Go _ _ _ _ T172 (mkF m 77 #[.val (.long q_1), .second, .val (.long q_2), .second, .val (.long q_3), .second, .val (.long q_4), .second, .val (.int p_5), .val (.long q_1), .second, .val (.long q_4), .second, .val (.int v150), .val (.ref b151), .val (.ref b161), .unset] [])
        refine own_go (fun _ k => XS.iconst X172.here hx rfl (hb hby at_77) k) ?_
        show own_Go _ _ _ _ T172 (mkF m 78 #[.val (.long q_1), .second, .val (.long q_2), .second, .val (.long q_3), .second, .val (.long q_4), .second, .val (.int p_5), .val (.long q_1), .second, .val (.long q_4), .second, .val (.int v150), .val (.ref b151), .val (.ref b161), .unset] [(.int (1 : Int32))])
        refine own_go (fun _ k => XS.goto X172.here hx rfl (pc0 := 78) (pc' := 82) rfl (hb hby at_78) (by decide) (by decide) k) ?_
        show own_Go _ _ _ _ T172 (mkF m 82 #[.val (.long q_1), .second, .val (.long q_2), .second, .val (.long q_3), .second, .val (.long q_4), .second, .val (.int p_5), .val (.long q_1), .second, .val (.long q_4), .second, .val (.int v150), .val (.ref b151), .val (.ref b161), .unset] [(.int (1 : Int32))])
        obtain ⟨fs, hr, hrun, hended, hW, hsame⟩ := X172.leave (v := some (.int (1 : Int32))) (fun h => by rw [Bd.returns] at h; cases h)
        refine ⟨_, _, retOut X172 hx Bd.returns rfl (Or.inl ⟨rfl, Or.inr (Or.inl rfl), _, rfl⟩) (hb hby at_82) hr, hrun, hended, _, _, rfl, ?_, ⟨_, rfl⟩, hW, hsame.mono (by rw [y172]; decide) (by rw [z172]; decide)⟩
        show own_Q0 Z q_1 q_2 q_3 q_4 p_5 wsc g_ h0 n0 _ T172.heap _
        rw [e172]
        exact ⟨rfl, N172⟩
      · refine own_go (fun _ k => XS.icmpYes X163.here hx rfl (pc0 := 65) (pc' := 83) rfl (hb hby at_65) rfl (Jvm.Free.XT.ii_ne_t hc171) (by decide) (by decide) k) ?_
        show own_Go _ _ _ _ T163 (mkF m 83 #[.val (.long q_1), .second, .val (.long q_2), .second, .val (.long q_3), .second, .val (.long q_4), .second, .val (.int p_5), .val (.long q_1), .second, .val (.long q_4), .second, .val (.int v150), .val (.ref b151), .val (.ref b161), .unset] [])
        refine own_go (fun _ k => XS.iload X163.here hx rfl (hb hby at_83) rfl k) ?_
        show own_Go _ _ _ _ T163 (mkF m 85 #[.val (.long q_1), .second, .val (.long q_2), .second, .val (.long q_3), .second, .val (.long q_4), .second, .val (.int p_5), .val (.long q_1), .second, .val (.long q_4), .second, .val (.int v150), .val (.ref b151), .val (.ref b161), .unset] [(.int v150)])
        refine own_go (fun _ k => XS.iconst X163.here hx rfl (hb hby at_85) k) ?_
        show own_Go _ _ _ _ T163 (mkF m 86 #[.val (.long q_1), .second, .val (.long q_2), .second, .val (.long q_3), .second, .val (.long q_4), .second, .val (.int p_5), .val (.long q_1), .second, .val (.long q_4), .second, .val (.int v150), .val (.ref b151), .val (.ref b161), .unset] [(.int (2 : Int32)), (.int v150)])
        by_cases hc176 : v150 = (2 : Int32)
        · refine own_go (fun _ k => XS.icmpNo X163.here hx rfl (hb hby at_86) rfl (Jvm.Free.XT.ii_ne_f hc176) k) ?_
          show own_Go _ _ _ _ T163 (mkF m 89 #[.val (.long q_1), .second, .val (.long q_2), .second, .val (.long q_3), .second, .val (.long q_4), .second, .val (.int p_5), .val (.long q_1), .second, .val (.long q_4), .second, .val (.int v150), .val (.ref b151), .val (.ref b161), .unset] [])
          refine own_go (fun _ k => XS.aload X163.here hx rfl (hb hby at_89) rfl rfl k) ?_
          show own_Go _ _ _ _ T163 (mkF m 91 #[.val (.long q_1), .second, .val (.long q_2), .second, .val (.long q_3), .second, .val (.long q_4), .second, .val (.int p_5), .val (.long q_1), .second, .val (.long q_4), .second, .val (.int v150), .val (.ref b151), .val (.ref b161), .unset] [(.ref b151)])
          refine own_go (fun _ k => XS.lloadN X163.here hx rfl (hb hby at_91) rfl k) ?_
          show own_Go _ _ _ _ T163 (mkF m 92 #[.val (.long q_1), .second, .val (.long q_2), .second, .val (.long q_3), .second, .val (.long q_4), .second, .val (.int p_5), .val (.long q_1), .second, .val (.long q_4), .second, .val (.int v150), .val (.ref b151), .val (.ref b161), .unset] [(.long q_1), (.ref b151)])
          have f177 : Sta Z T163.heap "java/lang/Long$LongCache" "cache" "[Ljava/lang/Long;" (.ref wsc) := (own_sta_keep ((own_sta_keep (pr_S_java_lang_Long_LongCache_cache.ext E151) K153q (allS (own_exa_plain A151) all0)).ext E161) K163q (allS (own_exa_plain A161) all0))
          have f178 : own_AV Z T163.heap wsc (.object "java/lang/Long") (256 : Int32) g_ := ((((pr_A_wsc.ext E151).keep K153q (ninS (own_ne (by omega)) nin0)).ext E161).keep K163q (ninS (own_ne (by omega)) nin0))
          obtain ⟨_, _, ⟨T179, L179, k179, n179⟩, -, X179, ⟨Lc179, hQ179, l179, y179, z179⟩, st179⟩ := Jvm.LawKit.callS X163 hx (y := (⟨"java/lang/Long", "valueOf", "(J)Ljava/lang/Long;"⟩ : MethodName)) hown (mvT hZ (hw _ (List.mem_of_getElem? (i := 25) rfl))) (mvT hZ (hw _ (List.mem_of_getElem? (i := 26) rfl))) (mvT hZ (hw _ (List.mem_of_getElem? (i := 27) rfl))) (mvT hZ (hw _ (List.mem_of_getElem? (i := 28) rfl))) (by decide) (backOf (W := 1) (own_rm5 l Z a0 hw [] q_1 wsc g_ T163.heap n0 (by omega) f177 f178 (fun i hi => by obtain ⟨a, e1, e2⟩ := hcache i hi; exact ⟨a, e1, e2.keep K163⟩)) hZ (hw _ (List.mem_of_getElem? (i := 28) rfl)) (hw _ (List.mem_of_getElem? (i := 27) rfl)) (by decide) (by decide)) (g := (mkF m 92 #[.val (.long q_1), .second, .val (.long q_2), .second, .val (.long q_3), .second, .val (.long q_4), .second, .val (.int p_5), .val (.long q_1), .second, .val (.long q_4), .second, .val (.int v150), .val (.ref b151), .val (.ref b161), .unset] [(.long q_1), (.ref b151)])) rfl (by rw [hml]; rfl) (argsL := [(.long q_1)]) (rest := [(.ref b151)]) (lenOf own_pd4 rfl) rfl (by show 2 * 0 + _ ≤ _; exact Nat.le_of_eq rfl) (hb hby at_92) (fun _ _ => ⟨rfl, rfl, (by show k163 + _ ≤ _; rw [y163]; decide), (by show n163 + _ ≤ _; rw [z163]; decide)⟩)
          dsimp only [Pt.U, Pt.locs, Pt.cells, Pt.slots] at X179 l179 y179 z179 st179 hQ179
          have y179 : k179 = 3 := own_addeq y179 (congrArg (fun q => q) y163) rfl
          have z179 : n179 = 5 := own_addeq z179 (congrArg (fun q => q) z163) rfl
          obtain ⟨b180, rfl, N179q, K179q, f181⟩ := hQ179
          have N179 : Fr n0 L179 := by rw [l179]; exact Fr.app N163 N179q
          have z182 := K179q.1
          have K179 : Keep h0 T179.heap [] := K163.trans K179q all0
          have z183 := own_lt f181.lt
          refine own_go (fun _ k => st179 _ k) ?_
          show own_Go _ _ _ _ T179 (mkF m 95 #[.val (.long q_1), .second, .val (.long q_2), .second, .val (.long q_3), .second, .val (.long q_4), .second, .val (.int p_5), .val (.long q_1), .second, .val (.long q_4), .second, .val (.int v150), .val (.ref b151), .val (.ref b161), .unset] [(.ref b180), (.ref b151)])
          have f185 : Exa Z T179.heap b151 "com/example/epsilonet/epsilonet/service/ObservationTree$Outcome" := (((f154.ext E161).keep K163q).keep K179q)
          obtain ⟨cq184, kq184, q184a, q184b, q184c⟩ := isOf hZ rfl f185
          obtain ⟨_, _, ⟨T184, L184, k184, n184⟩, -, X184, ⟨Lc184, hQ184, l184, y184, z184⟩, st184⟩ := X179.virtualBack hx (y := (⟨"com/example/epsilonet/epsilonet/service/ObservationTree$Outcome", "equals", "(Ljava/lang/Object;)Z"⟩ : MethodName)) (z := (⟨"com/example/epsilonet/epsilonet/service/ObservationTree$Outcome", "equals", "(Ljava/lang/Object;)Z"⟩ : MethodName)) hown (mvT hZ (hw _ (List.mem_of_getElem? (i := 18) rfl))) (mvT hZ (hw _ (List.mem_of_getElem? (i := 19) rfl))) (notFace_of_selects (args := #[]) (mvT hZ (hw _ (List.mem_of_getElem? (i := 21) rfl)))) (mvT hZ (hw _ (List.mem_of_getElem? (i := 21) rfl))) (mvT hZ (hw _ (List.mem_of_getElem? (i := 20) rfl))) (by decide) (backOf (W := 0) (own_rm4l l Z a0 hw [] b151 b180  T179.heap n0 (by omega) f181) hZ (hw _ (List.mem_of_getElem? (i := 22) rfl)) (hw _ (List.mem_of_getElem? (i := 2) rfl)) (by decide) (by decide)) q184a q184c (g := (mkF m 95 #[.val (.long q_1), .second, .val (.long q_2), .second, .val (.long q_3), .second, .val (.long q_4), .second, .val (.int p_5), .val (.long q_1), .second, .val (.long q_4), .second, .val (.int v150), .val (.ref b151), .val (.ref b161), .unset] [(.ref b180), (.ref b151)])) rfl (by rw [hml]; rfl) (Steps.refl _) (argsL := [(.ref b180)]) (rest := []) (lenOf own_pd3 rfl) rfl (by show 2 * 0 + _ ≤ _; exact Nat.le_of_eq rfl) (hb hby at_95) (fun _ _ => ⟨rfl, rfl, (by show k179 + _ ≤ _; rw [y179]; decide), (by show n179 + _ ≤ _; rw [z179]; decide)⟩)
          dsimp only [Pt.U, Pt.locs, Pt.cells, Pt.slots] at X184 l184 y184 z184 st184 hQ184
          have y184 : k184 = 3 := own_addeq y184 (congrArg (fun q => q) y179) rfl
          have z184 : n184 = 5 := own_addeq z184 (congrArg (fun q => q) z179) rfl
          obtain ⟨rfl, N184q, e184⟩ := hQ184
          have N184 : Fr n0 L184 := by rw [l184]; exact Fr.app N179 N184q
          refine own_go (fun _ k => st184.trans k) ?_
          show own_Go _ _ _ _ T184 (mkF m 98 #[.val (.long q_1), .second, .val (.long q_2), .second, .val (.long q_3), .second, .val (.long q_4), .second, .val (.int p_5), .val (.long q_1), .second, .val (.long q_4), .second, .val (.int v150), .val (.ref b151), .val (.ref b161), .unset] [(.int (0 : Int32))])
          have hc186 : (0 : Int32) = 0 := by decide
          refine own_go (fun _ k => XS.ifNo X184.here hx rfl (hb hby at_98) rfl (Jvm.Free.XT.i0_ne_f hc186) k) ?_
          show own_Go _ _ _ _ T184 (mkF m 101 #[.val (.long q_1), .second, .val (.long q_2), .second, .val (.long q_3), .second, .val (.long q_4), .second, .val (.int p_5), .val (.long q_1), .second, .val (.long q_4), .second, .val (.int v150), .val (.ref b151), .val (.ref b161), .unset] [])
          refine own_go (fun _ k => XS.iconst X184.here hx rfl (hb hby at_101) k) ?_
          show own_Go _ _ _ _ T184 (mkF m 102 #[.val (.long q_1), .second, .val (.long q_2), .second, .val (.long q_3), .second, .val (.long q_4), .second, .val (.int p_5), .val (.long q_1), .second, .val (.long q_4), .second, .val (.int v150), .val (.ref b151), .val (.ref b161), .unset] [(.int (1 : Int32))])
          refine own_go (fun _ k => XS.goto X184.here hx rfl (pc0 := 102) (pc' := 106) rfl (hb hby at_102) (by decide) (by decide) k) ?_
          show own_Go _ _ _ _ T184 (mkF m 106 #[.val (.long q_1), .second, .val (.long q_2), .second, .val (.long q_3), .second, .val (.long q_4), .second, .val (.int p_5), .val (.long q_1), .second, .val (.long q_4), .second, .val (.int v150), .val (.ref b151), .val (.ref b161), .unset] [(.int (1 : Int32))])
          obtain ⟨fs, hr, hrun, hended, hW, hsame⟩ := X184.leave (v := some (.int (1 : Int32))) (fun h => by rw [Bd.returns] at h; cases h)
          refine ⟨_, _, retOut X184 hx Bd.returns rfl (Or.inl ⟨rfl, Or.inr (Or.inl rfl), _, rfl⟩) (hb hby at_106) hr, hrun, hended, _, _, rfl, ?_, ⟨_, rfl⟩, hW, hsame.mono (by rw [y184]; decide) (by rw [z184]; decide)⟩
          show own_Q0 Z q_1 q_2 q_3 q_4 p_5 wsc g_ h0 n0 _ T184.heap _
          rw [e184]
          exact ⟨rfl, N184⟩
        · refine own_go (fun _ k => XS.icmpYes X163.here hx rfl (pc0 := 86) (pc' := 107) rfl (hb hby at_86) rfl (Jvm.Free.XT.ii_ne_t hc176) (by decide) (by decide) k) ?_
          show own_Go _ _ _ _ T163 (mkF m 107 #[.val (.long q_1), .second, .val (.long q_2), .second, .val (.long q_3), .second, .val (.long q_4), .second, .val (.int p_5), .val (.long q_1), .second, .val (.long q_4), .second, .val (.int v150), .val (.ref b151), .val (.ref b161), .unset] [])
          refine own_go (fun _ k => XS.lloadN X163.here hx rfl (hb hby at_107) rfl k) ?_
          show own_Go _ _ _ _ T163 (mkF m 108 #[.val (.long q_1), .second, .val (.long q_2), .second, .val (.long q_3), .second, .val (.long q_4), .second, .val (.int p_5), .val (.long q_1), .second, .val (.long q_4), .second, .val (.int v150), .val (.ref b151), .val (.ref b161), .unset] [(.long q_1)])
          refine own_go (fun _ k => XS.lload X163.here hx rfl (hb hby at_108) rfl k) ?_
          show own_Go _ _ _ _ T163 (mkF m 110 #[.val (.long q_1), .second, .val (.long q_2), .second, .val (.long q_3), .second, .val (.long q_4), .second, .val (.int p_5), .val (.long q_1), .second, .val (.long q_4), .second, .val (.int v150), .val (.ref b151), .val (.ref b161), .unset] [(.long q_1), (.long q_1)])
          refine own_go (fun _ k => XS.lcmp X163.here hx rfl (hb hby at_110) rfl k) ?_
          show own_Go _ _ _ _ T163 (mkF m 111 #[.val (.long q_1), .second, .val (.long q_2), .second, .val (.long q_3), .second, .val (.long q_4), .second, .val (.int p_5), .val (.long q_1), .second, .val (.long q_4), .second, .val (.int v150), .val (.ref b151), .val (.ref b161), .unset] [(.int (lcmpW q_1 q_1))])
          have hc188 : q_1 = q_1 := rfl
          refine own_go (fun _ k => XS.ifNo X163.here hx rfl (hb hby at_111) rfl (Jvm.Free.XT.ll_ne_f hc188) k) ?_
          show own_Go _ _ _ _ T163 (mkF m 114 #[.val (.long q_1), .second, .val (.long q_2), .second, .val (.long q_3), .second, .val (.long q_4), .second, .val (.int p_5), .val (.long q_1), .second, .val (.long q_4), .second, .val (.int v150), .val (.ref b151), .val (.ref b161), .unset] [])
          refine own_go (fun _ k => XS.lloadN X163.here hx rfl (hb hby at_114) rfl k) ?_
          show own_Go _ _ _ _ T163 (mkF m 115 #[.val (.long q_1), .second, .val (.long q_2), .second, .val (.long q_3), .second, .val (.long q_4), .second, .val (.int p_5), .val (.long q_1), .second, .val (.long q_4), .second, .val (.int v150), .val (.ref b151), .val (.ref b161), .unset] [(.long q_2)])
          refine own_go (fun _ k => XS.lload X163.here hx rfl (hb hby at_115) rfl k) ?_
          show own_Go _ _ _ _ T163 (mkF m 117 #[.val (.long q_1), .second, .val (.long q_2), .second, .val (.long q_3), .second, .val (.long q_4), .second, .val (.int p_5), .val (.long q_1), .second, .val (.long q_4), .second, .val (.int v150), .val (.ref b151), .val (.ref b161), .unset] [(.long q_4), (.long q_2)])
          refine own_go (fun _ k => XS.lcmp X163.here hx rfl (hb hby at_117) rfl k) ?_
          show own_Go _ _ _ _ T163 (mkF m 118 #[.val (.long q_1), .second, .val (.long q_2), .second, .val (.long q_3), .second, .val (.long q_4), .second, .val (.int p_5), .val (.long q_1), .second, .val (.long q_4), .second, .val (.int v150), .val (.ref b151), .val (.ref b161), .unset] [(.int (lcmpW q_2 q_4))])
          by_cases hc189 : q_2 = q_4
          · refine own_go (fun _ k => XS.ifNo X163.here hx rfl (hb hby at_118) rfl (Jvm.Free.XT.ll_ne_f hc189) k) ?_
            show own_Go _ _ _ _ T163 (mkF m 121 #[.val (.long q_1), .second, .val (.long q_2), .second, .val (.long q_3), .second, .val (.long q_4), .second, .val (.int p_5), .val (.long q_1), .second, .val (.long q_4), .second, .val (.int v150), .val (.ref b151), .val (.ref b161), .unset] [])
            refine own_go (fun _ k => XS.iconst X163.here hx rfl (hb hby at_121) k) ?_
            show own_Go _ _ _ _ T163 (mkF m 122 #[.val (.long q_1), .second, .val (.long q_2), .second, .val (.long q_3), .second, .val (.long q_4), .second, .val (.int p_5), .val (.long q_1), .second, .val (.long q_4), .second, .val (.int v150), .val (.ref b151), .val (.ref b161), .unset] [(.int (1 : Int32))])
            refine own_go (fun _ k => XS.goto X163.here hx rfl (pc0 := 122) (pc' := 126) rfl (hb hby at_122) (by decide) (by decide) k) ?_
            show own_Go _ _ _ _ T163 (mkF m 126 #[.val (.long q_1), .second, .val (.long q_2), .second, .val (.long q_3), .second, .val (.long q_4), .second, .val (.int p_5), .val (.long q_1), .second, .val (.long q_4), .second, .val (.int v150), .val (.ref b151), .val (.ref b161), .unset] [(.int (1 : Int32))])
            refine own_go (fun _ k => XS.istore X163.here hx rfl (hb hby at_126) rfl (l' := #[.val (.long q_1), .second, .val (.long q_2), .second, .val (.long q_3), .second, .val (.long q_4), .second, .val (.int p_5), .val (.long q_1), .second, .val (.long q_4), .second, .val (.int v150), .val (.ref b151), .val (.ref b161), .val (.int (1 : Int32))]) rfl k) ?_
            show own_Go _ _ _ _ T163 (mkF m 128 #[.val (.long q_1), .second, .val (.long q_2), .second, .val (.long q_3), .second, .val (.long q_4), .second, .val (.int p_5), .val (.long q_1), .second, .val (.long q_4), .second, .val (.int v150), .val (.ref b151), .val (.ref b161), .val (.int (1 : Int32))] [])
            refine own_go (fun _ k => XS.aload X163.here hx rfl (hb hby at_128) rfl rfl k) ?_
            show own_Go _ _ _ _ T163 (mkF m 130 #[.val (.long q_1), .second, .val (.long q_2), .second, .val (.long q_3), .second, .val (.long q_4), .second, .val (.int p_5), .val (.long q_1), .second, .val (.long q_4), .second, .val (.int v150), .val (.ref b151), .val (.ref b161), .val (.int (1 : Int32))] [(.ref b151)])
            refine own_go (fun _ k => XS.aload X163.here hx rfl (hb hby at_130) rfl rfl k) ?_
            show own_Go _ _ _ _ T163 (mkF m 132 #[.val (.long q_1), .second, .val (.long q_2), .second, .val (.long q_3), .second, .val (.long q_4), .second, .val (.int p_5), .val (.long q_1), .second, .val (.long q_4), .second, .val (.int v150), .val (.ref b151), .val (.ref b161), .val (.int (1 : Int32))] [(.ref b161), (.ref b151)])
            have f190 : Fld Z T163.heap b151 "com/example/epsilonet/epsilonet/service/ObservationTree$Outcome" "observed" "J" (.long q_1) := ((f155.ext E161).keep K163q (ninS (own_ne (by omega)) nin0))
            have f191 : Fld Z T163.heap b151 "com/example/epsilonet/epsilonet/service/ObservationTree$Outcome" "values" "J" (.long q_2) := ((f156.ext E161).keep K163q (ninS (own_ne (by omega)) nin0))
            have f193 : Exa Z T163.heap b151 "com/example/epsilonet/epsilonet/service/ObservationTree$Outcome" := ((f154.ext E161).keep K163q)
            obtain ⟨cq192, kq192, q192a, q192b, q192c⟩ := isOf hZ rfl f193
            obtain ⟨_, _, ⟨T192, L192, k192, n192⟩, -, X192, ⟨Lc192, hQ192, l192, y192, z192⟩, st192⟩ := X163.virtualBack hx (y := (⟨"com/example/epsilonet/epsilonet/service/ObservationTree$Outcome", "equals", "(Ljava/lang/Object;)Z"⟩ : MethodName)) (z := (⟨"com/example/epsilonet/epsilonet/service/ObservationTree$Outcome", "equals", "(Ljava/lang/Object;)Z"⟩ : MethodName)) hown (mvT hZ (hw _ (List.mem_of_getElem? (i := 18) rfl))) (mvT hZ (hw _ (List.mem_of_getElem? (i := 19) rfl))) (notFace_of_selects (args := #[]) (mvT hZ (hw _ (List.mem_of_getElem? (i := 21) rfl)))) (mvT hZ (hw _ (List.mem_of_getElem? (i := 21) rfl))) (mvT hZ (hw _ (List.mem_of_getElem? (i := 20) rfl))) (by decide) (backOf (W := 0) (own_rm4 l Z a0 hw [] b151 b161 q_1 q_1 q_2 q_4 T163.heap n0 (by omega) f164 f190 f165 f191 f166) hZ (hw _ (List.mem_of_getElem? (i := 22) rfl)) (hw _ (List.mem_of_getElem? (i := 2) rfl)) (by decide) (by decide)) q192a q192c (g := (mkF m 132 #[.val (.long q_1), .second, .val (.long q_2), .second, .val (.long q_3), .second, .val (.long q_4), .second, .val (.int p_5), .val (.long q_1), .second, .val (.long q_4), .second, .val (.int v150), .val (.ref b151), .val (.ref b161), .val (.int (1 : Int32))] [(.ref b161), (.ref b151)])) rfl (by rw [hml]; rfl) (Steps.refl _) (argsL := [(.ref b161)]) (rest := []) (lenOf own_pd3 rfl) rfl (by show 2 * 0 + _ ≤ _; exact Nat.le_of_eq rfl) (hb hby at_132) (fun _ _ => ⟨rfl, rfl, (by show k163 + _ ≤ _; rw [y163]; decide), (by show n163 + _ ≤ _; rw [z163]; decide)⟩)
            dsimp only [Pt.U, Pt.locs, Pt.cells, Pt.slots] at X192 l192 y192 z192 st192 hQ192
            have y192 : k192 = 2 := own_addeq y192 (congrArg (fun q => q) y163) rfl
            have z192 : n192 = 4 := own_addeq z192 (congrArg (fun q => q) z163) rfl
            obtain ⟨r194, rfl, N192q, hr_r194, e192⟩ := hQ192
            have N192 : Fr n0 L192 := by rw [l192]; exact Fr.app N163 N192q
            refine own_go (fun _ k => st192.trans k) ?_
            show own_Go _ _ _ _ T192 (mkF m 135 #[.val (.long q_1), .second, .val (.long q_2), .second, .val (.long q_3), .second, .val (.long q_4), .second, .val (.int p_5), .val (.long q_1), .second, .val (.long q_4), .second, .val (.int v150), .val (.ref b151), .val (.ref b161), .val (.int (1 : Int32))] [(.int r194)])
            refine own_go (fun _ k => XS.iload X192.here hx rfl (hb hby at_135) rfl k) ?_
            show own_Go _ _ _ _ T192 (mkF m 137 #[.val (.long q_1), .second, .val (.long q_2), .second, .val (.long q_3), .second, .val (.long q_4), .second, .val (.int p_5), .val (.long q_1), .second, .val (.long q_4), .second, .val (.int v150), .val (.ref b151), .val (.ref b161), .val (.int (1 : Int32))] [(.int (1 : Int32)), (.int r194)])
            have hc195 : r194 = (1 : Int32) := own_t0_15 q_1 q_2 q_4 r194 hc189 hr_r194
            refine own_go (fun _ k => XS.icmpNo X192.here hx rfl (hb hby at_137) rfl (Jvm.Free.XT.ii_ne_f hc195) k) ?_
            show own_Go _ _ _ _ T192 (mkF m 140 #[.val (.long q_1), .second, .val (.long q_2), .second, .val (.long q_3), .second, .val (.long q_4), .second, .val (.int p_5), .val (.long q_1), .second, .val (.long q_4), .second, .val (.int v150), .val (.ref b151), .val (.ref b161), .val (.int (1 : Int32))] [])
            refine own_go (fun _ k => XS.aload X192.here hx rfl (hb hby at_140) rfl rfl k) ?_
            show own_Go _ _ _ _ T192 (mkF m 142 #[.val (.long q_1), .second, .val (.long q_2), .second, .val (.long q_3), .second, .val (.long q_4), .second, .val (.int p_5), .val (.long q_1), .second, .val (.long q_4), .second, .val (.int v150), .val (.ref b151), .val (.ref b161), .val (.int (1 : Int32))] [(.ref b161)])
            refine own_go (fun _ k => XS.aload X192.here hx rfl (hb hby at_142) rfl rfl k) ?_
            show own_Go _ _ _ _ T192 (mkF m 144 #[.val (.long q_1), .second, .val (.long q_2), .second, .val (.long q_3), .second, .val (.long q_4), .second, .val (.int p_5), .val (.long q_1), .second, .val (.long q_4), .second, .val (.int v150), .val (.ref b151), .val (.ref b161), .val (.int (1 : Int32))] [(.ref b151), (.ref b161)])
            obtain ⟨cq196, kq196, q196a, q196b, q196c⟩ := isOf hZ e192 f164
            obtain ⟨_, _, ⟨T196, L196, k196, n196⟩, -, X196, ⟨Lc196, hQ196, l196, y196, z196⟩, st196⟩ := X192.virtualBack hx (y := (⟨"com/example/epsilonet/epsilonet/service/ObservationTree$Outcome", "equals", "(Ljava/lang/Object;)Z"⟩ : MethodName)) (z := (⟨"com/example/epsilonet/epsilonet/service/ObservationTree$Outcome", "equals", "(Ljava/lang/Object;)Z"⟩ : MethodName)) hown (mvT hZ (hw _ (List.mem_of_getElem? (i := 18) rfl))) (mvT hZ (hw _ (List.mem_of_getElem? (i := 19) rfl))) (notFace_of_selects (args := #[]) (mvT hZ (hw _ (List.mem_of_getElem? (i := 21) rfl)))) (mvT hZ (hw _ (List.mem_of_getElem? (i := 21) rfl))) (mvT hZ (hw _ (List.mem_of_getElem? (i := 20) rfl))) (by decide) (backOf (W := 0) (own_rm4 l Z a0 hw [] b161 b151 q_1 q_1 q_4 q_2 T163.heap n0 (by omega) f193 f165 f190 f166 f191) hZ (hw _ (List.mem_of_getElem? (i := 22) rfl)) (hw _ (List.mem_of_getElem? (i := 2) rfl)) (by decide) (by decide)) q196a q196c (g := (mkF m 144 #[.val (.long q_1), .second, .val (.long q_2), .second, .val (.long q_3), .second, .val (.long q_4), .second, .val (.int p_5), .val (.long q_1), .second, .val (.long q_4), .second, .val (.int v150), .val (.ref b151), .val (.ref b161), .val (.int (1 : Int32))] [(.ref b151), (.ref b161)])) rfl (by rw [hml]; rfl) (Steps.refl _) (argsL := [(.ref b151)]) (rest := []) (lenOf own_pd3 rfl) rfl (by show 2 * 0 + _ ≤ _; exact Nat.le_of_eq rfl) (hb hby at_144) (fun _ _ => ⟨rfl, e192, (by show k192 + _ ≤ _; rw [y192]; decide), (by show n192 + _ ≤ _; rw [z192]; decide)⟩)
            dsimp only [Pt.U, Pt.locs, Pt.cells, Pt.slots] at X196 l196 y196 z196 st196 hQ196
            have y196 : k196 = 2 := own_addeq y196 (congrArg (fun q => q) y192) rfl
            have z196 : n196 = 4 := own_addeq z196 (congrArg (fun q => q) z192) rfl
            obtain ⟨r197, rfl, N196q, hr_r197, e196⟩ := hQ196
            have N196 : Fr n0 L196 := by rw [l196]; exact Fr.app N192 N196q
            refine own_go (fun _ k => st196.trans k) ?_
            show own_Go _ _ _ _ T196 (mkF m 147 #[.val (.long q_1), .second, .val (.long q_2), .second, .val (.long q_3), .second, .val (.long q_4), .second, .val (.int p_5), .val (.long q_1), .second, .val (.long q_4), .second, .val (.int v150), .val (.ref b151), .val (.ref b161), .val (.int (1 : Int32))] [(.int r197)])
            refine own_go (fun _ k => XS.iload X196.here hx rfl (hb hby at_147) rfl k) ?_
            show own_Go _ _ _ _ T196 (mkF m 149 #[.val (.long q_1), .second, .val (.long q_2), .second, .val (.long q_3), .second, .val (.long q_4), .second, .val (.int p_5), .val (.long q_1), .second, .val (.long q_4), .second, .val (.int v150), .val (.ref b151), .val (.ref b161), .val (.int (1 : Int32))] [(.int (1 : Int32)), (.int r197)])
            have hc198 : r197 = (1 : Int32) := own_t0_16 q_1 q_2 q_4 r194 r197 hc189 hr_r194 hc195 hr_r197
            refine own_go (fun _ k => XS.icmpNo X196.here hx rfl (hb hby at_149) rfl (Jvm.Free.XT.ii_ne_f hc198) k) ?_
            show own_Go _ _ _ _ T196 (mkF m 152 #[.val (.long q_1), .second, .val (.long q_2), .second, .val (.long q_3), .second, .val (.long q_4), .second, .val (.int p_5), .val (.long q_1), .second, .val (.long q_4), .second, .val (.int v150), .val (.ref b151), .val (.ref b161), .val (.int (1 : Int32))] [])
            refine own_go (fun _ k => XS.aload X196.here hx rfl (hb hby at_152) rfl rfl k) ?_
            show own_Go _ _ _ _ T196 (mkF m 154 #[.val (.long q_1), .second, .val (.long q_2), .second, .val (.long q_3), .second, .val (.long q_4), .second, .val (.int p_5), .val (.long q_1), .second, .val (.long q_4), .second, .val (.int v150), .val (.ref b151), .val (.ref b161), .val (.int (1 : Int32))] [(.ref b151)])
            refine own_go (fun _ k => XS.aload X196.here hx rfl (hb hby at_154) rfl rfl k) ?_
            show own_Go _ _ _ _ T196 (mkF m 156 #[.val (.long q_1), .second, .val (.long q_2), .second, .val (.long q_3), .second, .val (.long q_4), .second, .val (.int p_5), .val (.long q_1), .second, .val (.long q_4), .second, .val (.int v150), .val (.ref b151), .val (.ref b161), .val (.int (1 : Int32))] [(.ref b151), (.ref b151)])
            obtain ⟨cq199, kq199, q199a, q199b, q199c⟩ := isOf hZ e196 f193
            obtain ⟨_, _, ⟨T199, L199, k199, n199⟩, -, X199, ⟨Lc199, hQ199, l199, y199, z199⟩, st199⟩ := X196.virtualBack hx (y := (⟨"com/example/epsilonet/epsilonet/service/ObservationTree$Outcome", "equals", "(Ljava/lang/Object;)Z"⟩ : MethodName)) (z := (⟨"com/example/epsilonet/epsilonet/service/ObservationTree$Outcome", "equals", "(Ljava/lang/Object;)Z"⟩ : MethodName)) hown (mvT hZ (hw _ (List.mem_of_getElem? (i := 18) rfl))) (mvT hZ (hw _ (List.mem_of_getElem? (i := 19) rfl))) (notFace_of_selects (args := #[]) (mvT hZ (hw _ (List.mem_of_getElem? (i := 21) rfl)))) (mvT hZ (hw _ (List.mem_of_getElem? (i := 21) rfl))) (mvT hZ (hw _ (List.mem_of_getElem? (i := 20) rfl))) (by decide) (backOf (W := 0) (own_rm4 l Z a0 hw [] b151 b151 q_1 q_1 q_2 q_2 T163.heap n0 (by omega) f193 f190 f190 f191 f191) hZ (hw _ (List.mem_of_getElem? (i := 22) rfl)) (hw _ (List.mem_of_getElem? (i := 2) rfl)) (by decide) (by decide)) q199a q199c (g := (mkF m 156 #[.val (.long q_1), .second, .val (.long q_2), .second, .val (.long q_3), .second, .val (.long q_4), .second, .val (.int p_5), .val (.long q_1), .second, .val (.long q_4), .second, .val (.int v150), .val (.ref b151), .val (.ref b161), .val (.int (1 : Int32))] [(.ref b151), (.ref b151)])) rfl (by rw [hml]; rfl) (Steps.refl _) (argsL := [(.ref b151)]) (rest := []) (lenOf own_pd3 rfl) rfl (by show 2 * 0 + _ ≤ _; exact Nat.le_of_eq rfl) (hb hby at_156) (fun _ _ => ⟨rfl, e196, (by show k196 + _ ≤ _; rw [y196]; decide), (by show n196 + _ ≤ _; rw [z196]; decide)⟩)
            dsimp only [Pt.U, Pt.locs, Pt.cells, Pt.slots] at X199 l199 y199 z199 st199 hQ199
            have y199 : k199 = 2 := own_addeq y199 (congrArg (fun q => q) y196) rfl
            have z199 : n199 = 4 := own_addeq z199 (congrArg (fun q => q) z196) rfl
            obtain ⟨r200, rfl, N199q, hr_r200, e199⟩ := hQ199
            have N199 : Fr n0 L199 := by rw [l199]; exact Fr.app N196 N199q
            refine own_go (fun _ k => st199.trans k) ?_
            show own_Go _ _ _ _ T199 (mkF m 159 #[.val (.long q_1), .second, .val (.long q_2), .second, .val (.long q_3), .second, .val (.long q_4), .second, .val (.int p_5), .val (.long q_1), .second, .val (.long q_4), .second, .val (.int v150), .val (.ref b151), .val (.ref b161), .val (.int (1 : Int32))] [(.int r200)])
            have hc201 : ¬ (r200 = 0) := own_t0_17 q_1 q_2 q_4 r194 r197 r200 hc189 hr_r194 hc195 hr_r197 hc198 hr_r200
            refine own_go (fun _ k => XS.ifNo X199.here hx rfl (hb hby at_159) rfl (Jvm.Free.XT.i0_eq_f hc201) k) ?_
            show own_Go _ _ _ _ T199 (mkF m 162 #[.val (.long q_1), .second, .val (.long q_2), .second, .val (.long q_3), .second, .val (.long q_4), .second, .val (.int p_5), .val (.long q_1), .second, .val (.long q_4), .second, .val (.int v150), .val (.ref b151), .val (.ref b161), .val (.int (1 : Int32))] [])
            refine own_go (fun _ k => XS.iconst X199.here hx rfl (hb hby at_162) k) ?_
            show own_Go _ _ _ _ T199 (mkF m 163 #[.val (.long q_1), .second, .val (.long q_2), .second, .val (.long q_3), .second, .val (.long q_4), .second, .val (.int p_5), .val (.long q_1), .second, .val (.long q_4), .second, .val (.int v150), .val (.ref b151), .val (.ref b161), .val (.int (1 : Int32))] [(.int (1 : Int32))])
            refine own_go (fun _ k => XS.goto X199.here hx rfl (pc0 := 163) (pc' := 167) rfl (hb hby at_163) (by decide) (by decide) k) ?_
            show own_Go _ _ _ _ T199 (mkF m 167 #[.val (.long q_1), .second, .val (.long q_2), .second, .val (.long q_3), .second, .val (.long q_4), .second, .val (.int p_5), .val (.long q_1), .second, .val (.long q_4), .second, .val (.int v150), .val (.ref b151), .val (.ref b161), .val (.int (1 : Int32))] [(.int (1 : Int32))])
            obtain ⟨fs, hr, hrun, hended, hW, hsame⟩ := X199.leave (v := some (.int (1 : Int32))) (fun h => by rw [Bd.returns] at h; cases h)
            refine ⟨_, _, retOut X199 hx Bd.returns rfl (Or.inl ⟨rfl, Or.inr (Or.inl rfl), _, rfl⟩) (hb hby at_167) hr, hrun, hended, _, _, rfl, ?_, ⟨_, rfl⟩, hW, hsame.mono (by rw [y199]; decide) (by rw [z199]; decide)⟩
            show own_Q0 Z q_1 q_2 q_3 q_4 p_5 wsc g_ h0 n0 _ T199.heap _
            rw [e199]
            exact ⟨rfl, N199⟩
          · refine own_go (fun _ k => XS.ifYes X163.here hx rfl (pc0 := 118) (pc' := 125) rfl (hb hby at_118) rfl (Jvm.Free.XT.ll_ne_t hc189) (by decide) (by decide) k) ?_
            show own_Go _ _ _ _ T163 (mkF m 125 #[.val (.long q_1), .second, .val (.long q_2), .second, .val (.long q_3), .second, .val (.long q_4), .second, .val (.int p_5), .val (.long q_1), .second, .val (.long q_4), .second, .val (.int v150), .val (.ref b151), .val (.ref b161), .unset] [])
            refine own_go (fun _ k => XS.iconst X163.here hx rfl (hb hby at_125) k) ?_
            show own_Go _ _ _ _ T163 (mkF m 126 #[.val (.long q_1), .second, .val (.long q_2), .second, .val (.long q_3), .second, .val (.long q_4), .second, .val (.int p_5), .val (.long q_1), .second, .val (.long q_4), .second, .val (.int v150), .val (.ref b151), .val (.ref b161), .unset] [(.int (0 : Int32))])
            refine own_go (fun _ k => XS.istore X163.here hx rfl (hb hby at_126) rfl (l' := #[.val (.long q_1), .second, .val (.long q_2), .second, .val (.long q_3), .second, .val (.long q_4), .second, .val (.int p_5), .val (.long q_1), .second, .val (.long q_4), .second, .val (.int v150), .val (.ref b151), .val (.ref b161), .val (.int (0 : Int32))]) rfl k) ?_
            show own_Go _ _ _ _ T163 (mkF m 128 #[.val (.long q_1), .second, .val (.long q_2), .second, .val (.long q_3), .second, .val (.long q_4), .second, .val (.int p_5), .val (.long q_1), .second, .val (.long q_4), .second, .val (.int v150), .val (.ref b151), .val (.ref b161), .val (.int (0 : Int32))] [])
            refine own_go (fun _ k => XS.aload X163.here hx rfl (hb hby at_128) rfl rfl k) ?_
            show own_Go _ _ _ _ T163 (mkF m 130 #[.val (.long q_1), .second, .val (.long q_2), .second, .val (.long q_3), .second, .val (.long q_4), .second, .val (.int p_5), .val (.long q_1), .second, .val (.long q_4), .second, .val (.int v150), .val (.ref b151), .val (.ref b161), .val (.int (0 : Int32))] [(.ref b151)])
            refine own_go (fun _ k => XS.aload X163.here hx rfl (hb hby at_130) rfl rfl k) ?_
            show own_Go _ _ _ _ T163 (mkF m 132 #[.val (.long q_1), .second, .val (.long q_2), .second, .val (.long q_3), .second, .val (.long q_4), .second, .val (.int p_5), .val (.long q_1), .second, .val (.long q_4), .second, .val (.int v150), .val (.ref b151), .val (.ref b161), .val (.int (0 : Int32))] [(.ref b161), (.ref b151)])
            have f203 : Fld Z T163.heap b151 "com/example/epsilonet/epsilonet/service/ObservationTree$Outcome" "observed" "J" (.long q_1) := ((f155.ext E161).keep K163q (ninS (own_ne (by omega)) nin0))
            have f204 : Fld Z T163.heap b151 "com/example/epsilonet/epsilonet/service/ObservationTree$Outcome" "values" "J" (.long q_2) := ((f156.ext E161).keep K163q (ninS (own_ne (by omega)) nin0))
            have f206 : Exa Z T163.heap b151 "com/example/epsilonet/epsilonet/service/ObservationTree$Outcome" := ((f154.ext E161).keep K163q)
            obtain ⟨cq205, kq205, q205a, q205b, q205c⟩ := isOf hZ rfl f206
            obtain ⟨_, _, ⟨T205, L205, k205, n205⟩, -, X205, ⟨Lc205, hQ205, l205, y205, z205⟩, st205⟩ := X163.virtualBack hx (y := (⟨"com/example/epsilonet/epsilonet/service/ObservationTree$Outcome", "equals", "(Ljava/lang/Object;)Z"⟩ : MethodName)) (z := (⟨"com/example/epsilonet/epsilonet/service/ObservationTree$Outcome", "equals", "(Ljava/lang/Object;)Z"⟩ : MethodName)) hown (mvT hZ (hw _ (List.mem_of_getElem? (i := 18) rfl))) (mvT hZ (hw _ (List.mem_of_getElem? (i := 19) rfl))) (notFace_of_selects (args := #[]) (mvT hZ (hw _ (List.mem_of_getElem? (i := 21) rfl)))) (mvT hZ (hw _ (List.mem_of_getElem? (i := 21) rfl))) (mvT hZ (hw _ (List.mem_of_getElem? (i := 20) rfl))) (by decide) (backOf (W := 0) (own_rm4 l Z a0 hw [] b151 b161 q_1 q_1 q_2 q_4 T163.heap n0 (by omega) f164 f203 f165 f204 f166) hZ (hw _ (List.mem_of_getElem? (i := 22) rfl)) (hw _ (List.mem_of_getElem? (i := 2) rfl)) (by decide) (by decide)) q205a q205c (g := (mkF m 132 #[.val (.long q_1), .second, .val (.long q_2), .second, .val (.long q_3), .second, .val (.long q_4), .second, .val (.int p_5), .val (.long q_1), .second, .val (.long q_4), .second, .val (.int v150), .val (.ref b151), .val (.ref b161), .val (.int (0 : Int32))] [(.ref b161), (.ref b151)])) rfl (by rw [hml]; rfl) (Steps.refl _) (argsL := [(.ref b161)]) (rest := []) (lenOf own_pd3 rfl) rfl (by show 2 * 0 + _ ≤ _; exact Nat.le_of_eq rfl) (hb hby at_132) (fun _ _ => ⟨rfl, rfl, (by show k163 + _ ≤ _; rw [y163]; decide), (by show n163 + _ ≤ _; rw [z163]; decide)⟩)
            dsimp only [Pt.U, Pt.locs, Pt.cells, Pt.slots] at X205 l205 y205 z205 st205 hQ205
            have y205 : k205 = 2 := own_addeq y205 (congrArg (fun q => q) y163) rfl
            have z205 : n205 = 4 := own_addeq z205 (congrArg (fun q => q) z163) rfl
            obtain ⟨r207, rfl, N205q, hr_r207, e205⟩ := hQ205
            have N205 : Fr n0 L205 := by rw [l205]; exact Fr.app N163 N205q
            refine own_go (fun _ k => st205.trans k) ?_
            show own_Go _ _ _ _ T205 (mkF m 135 #[.val (.long q_1), .second, .val (.long q_2), .second, .val (.long q_3), .second, .val (.long q_4), .second, .val (.int p_5), .val (.long q_1), .second, .val (.long q_4), .second, .val (.int v150), .val (.ref b151), .val (.ref b161), .val (.int (0 : Int32))] [(.int r207)])
            refine own_go (fun _ k => XS.iload X205.here hx rfl (hb hby at_135) rfl k) ?_
            show own_Go _ _ _ _ T205 (mkF m 137 #[.val (.long q_1), .second, .val (.long q_2), .second, .val (.long q_3), .second, .val (.long q_4), .second, .val (.int p_5), .val (.long q_1), .second, .val (.long q_4), .second, .val (.int v150), .val (.ref b151), .val (.ref b161), .val (.int (0 : Int32))] [(.int (0 : Int32)), (.int r207)])
            have hc208 : r207 = (0 : Int32) := own_t0_18 q_1 q_2 q_4 r207 hc189 hr_r207
            refine own_go (fun _ k => XS.icmpNo X205.here hx rfl (hb hby at_137) rfl (Jvm.Free.XT.ii_ne_f hc208) k) ?_
            show own_Go _ _ _ _ T205 (mkF m 140 #[.val (.long q_1), .second, .val (.long q_2), .second, .val (.long q_3), .second, .val (.long q_4), .second, .val (.int p_5), .val (.long q_1), .second, .val (.long q_4), .second, .val (.int v150), .val (.ref b151), .val (.ref b161), .val (.int (0 : Int32))] [])
            refine own_go (fun _ k => XS.aload X205.here hx rfl (hb hby at_140) rfl rfl k) ?_
            show own_Go _ _ _ _ T205 (mkF m 142 #[.val (.long q_1), .second, .val (.long q_2), .second, .val (.long q_3), .second, .val (.long q_4), .second, .val (.int p_5), .val (.long q_1), .second, .val (.long q_4), .second, .val (.int v150), .val (.ref b151), .val (.ref b161), .val (.int (0 : Int32))] [(.ref b161)])
            refine own_go (fun _ k => XS.aload X205.here hx rfl (hb hby at_142) rfl rfl k) ?_
            show own_Go _ _ _ _ T205 (mkF m 144 #[.val (.long q_1), .second, .val (.long q_2), .second, .val (.long q_3), .second, .val (.long q_4), .second, .val (.int p_5), .val (.long q_1), .second, .val (.long q_4), .second, .val (.int v150), .val (.ref b151), .val (.ref b161), .val (.int (0 : Int32))] [(.ref b151), (.ref b161)])
            obtain ⟨cq209, kq209, q209a, q209b, q209c⟩ := isOf hZ e205 f164
            obtain ⟨_, _, ⟨T209, L209, k209, n209⟩, -, X209, ⟨Lc209, hQ209, l209, y209, z209⟩, st209⟩ := X205.virtualBack hx (y := (⟨"com/example/epsilonet/epsilonet/service/ObservationTree$Outcome", "equals", "(Ljava/lang/Object;)Z"⟩ : MethodName)) (z := (⟨"com/example/epsilonet/epsilonet/service/ObservationTree$Outcome", "equals", "(Ljava/lang/Object;)Z"⟩ : MethodName)) hown (mvT hZ (hw _ (List.mem_of_getElem? (i := 18) rfl))) (mvT hZ (hw _ (List.mem_of_getElem? (i := 19) rfl))) (notFace_of_selects (args := #[]) (mvT hZ (hw _ (List.mem_of_getElem? (i := 21) rfl)))) (mvT hZ (hw _ (List.mem_of_getElem? (i := 21) rfl))) (mvT hZ (hw _ (List.mem_of_getElem? (i := 20) rfl))) (by decide) (backOf (W := 0) (own_rm4 l Z a0 hw [] b161 b151 q_1 q_1 q_4 q_2 T163.heap n0 (by omega) f206 f165 f203 f166 f204) hZ (hw _ (List.mem_of_getElem? (i := 22) rfl)) (hw _ (List.mem_of_getElem? (i := 2) rfl)) (by decide) (by decide)) q209a q209c (g := (mkF m 144 #[.val (.long q_1), .second, .val (.long q_2), .second, .val (.long q_3), .second, .val (.long q_4), .second, .val (.int p_5), .val (.long q_1), .second, .val (.long q_4), .second, .val (.int v150), .val (.ref b151), .val (.ref b161), .val (.int (0 : Int32))] [(.ref b151), (.ref b161)])) rfl (by rw [hml]; rfl) (Steps.refl _) (argsL := [(.ref b151)]) (rest := []) (lenOf own_pd3 rfl) rfl (by show 2 * 0 + _ ≤ _; exact Nat.le_of_eq rfl) (hb hby at_144) (fun _ _ => ⟨rfl, e205, (by show k205 + _ ≤ _; rw [y205]; decide), (by show n205 + _ ≤ _; rw [z205]; decide)⟩)
            dsimp only [Pt.U, Pt.locs, Pt.cells, Pt.slots] at X209 l209 y209 z209 st209 hQ209
            have y209 : k209 = 2 := own_addeq y209 (congrArg (fun q => q) y205) rfl
            have z209 : n209 = 4 := own_addeq z209 (congrArg (fun q => q) z205) rfl
            obtain ⟨r210, rfl, N209q, hr_r210, e209⟩ := hQ209
            have N209 : Fr n0 L209 := by rw [l209]; exact Fr.app N205 N209q
            refine own_go (fun _ k => st209.trans k) ?_
            show own_Go _ _ _ _ T209 (mkF m 147 #[.val (.long q_1), .second, .val (.long q_2), .second, .val (.long q_3), .second, .val (.long q_4), .second, .val (.int p_5), .val (.long q_1), .second, .val (.long q_4), .second, .val (.int v150), .val (.ref b151), .val (.ref b161), .val (.int (0 : Int32))] [(.int r210)])
            refine own_go (fun _ k => XS.iload X209.here hx rfl (hb hby at_147) rfl k) ?_
            show own_Go _ _ _ _ T209 (mkF m 149 #[.val (.long q_1), .second, .val (.long q_2), .second, .val (.long q_3), .second, .val (.long q_4), .second, .val (.int p_5), .val (.long q_1), .second, .val (.long q_4), .second, .val (.int v150), .val (.ref b151), .val (.ref b161), .val (.int (0 : Int32))] [(.int (0 : Int32)), (.int r210)])
            have hc211 : r210 = (0 : Int32) := own_t0_19 q_1 q_2 q_4 r207 r210 hc189 hr_r207 hc208 hr_r210
            refine own_go (fun _ k => XS.icmpNo X209.here hx rfl (hb hby at_149) rfl (Jvm.Free.XT.ii_ne_f hc211) k) ?_
            show own_Go _ _ _ _ T209 (mkF m 152 #[.val (.long q_1), .second, .val (.long q_2), .second, .val (.long q_3), .second, .val (.long q_4), .second, .val (.int p_5), .val (.long q_1), .second, .val (.long q_4), .second, .val (.int v150), .val (.ref b151), .val (.ref b161), .val (.int (0 : Int32))] [])
            refine own_go (fun _ k => XS.aload X209.here hx rfl (hb hby at_152) rfl rfl k) ?_
            show own_Go _ _ _ _ T209 (mkF m 154 #[.val (.long q_1), .second, .val (.long q_2), .second, .val (.long q_3), .second, .val (.long q_4), .second, .val (.int p_5), .val (.long q_1), .second, .val (.long q_4), .second, .val (.int v150), .val (.ref b151), .val (.ref b161), .val (.int (0 : Int32))] [(.ref b151)])
            refine own_go (fun _ k => XS.aload X209.here hx rfl (hb hby at_154) rfl rfl k) ?_
            show own_Go _ _ _ _ T209 (mkF m 156 #[.val (.long q_1), .second, .val (.long q_2), .second, .val (.long q_3), .second, .val (.long q_4), .second, .val (.int p_5), .val (.long q_1), .second, .val (.long q_4), .second, .val (.int v150), .val (.ref b151), .val (.ref b161), .val (.int (0 : Int32))] [(.ref b151), (.ref b151)])
            obtain ⟨cq212, kq212, q212a, q212b, q212c⟩ := isOf hZ e209 f206
            obtain ⟨_, _, ⟨T212, L212, k212, n212⟩, -, X212, ⟨Lc212, hQ212, l212, y212, z212⟩, st212⟩ := X209.virtualBack hx (y := (⟨"com/example/epsilonet/epsilonet/service/ObservationTree$Outcome", "equals", "(Ljava/lang/Object;)Z"⟩ : MethodName)) (z := (⟨"com/example/epsilonet/epsilonet/service/ObservationTree$Outcome", "equals", "(Ljava/lang/Object;)Z"⟩ : MethodName)) hown (mvT hZ (hw _ (List.mem_of_getElem? (i := 18) rfl))) (mvT hZ (hw _ (List.mem_of_getElem? (i := 19) rfl))) (notFace_of_selects (args := #[]) (mvT hZ (hw _ (List.mem_of_getElem? (i := 21) rfl)))) (mvT hZ (hw _ (List.mem_of_getElem? (i := 21) rfl))) (mvT hZ (hw _ (List.mem_of_getElem? (i := 20) rfl))) (by decide) (backOf (W := 0) (own_rm4 l Z a0 hw [] b151 b151 q_1 q_1 q_2 q_2 T163.heap n0 (by omega) f206 f203 f203 f204 f204) hZ (hw _ (List.mem_of_getElem? (i := 22) rfl)) (hw _ (List.mem_of_getElem? (i := 2) rfl)) (by decide) (by decide)) q212a q212c (g := (mkF m 156 #[.val (.long q_1), .second, .val (.long q_2), .second, .val (.long q_3), .second, .val (.long q_4), .second, .val (.int p_5), .val (.long q_1), .second, .val (.long q_4), .second, .val (.int v150), .val (.ref b151), .val (.ref b161), .val (.int (0 : Int32))] [(.ref b151), (.ref b151)])) rfl (by rw [hml]; rfl) (Steps.refl _) (argsL := [(.ref b151)]) (rest := []) (lenOf own_pd3 rfl) rfl (by show 2 * 0 + _ ≤ _; exact Nat.le_of_eq rfl) (hb hby at_156) (fun _ _ => ⟨rfl, e209, (by show k209 + _ ≤ _; rw [y209]; decide), (by show n209 + _ ≤ _; rw [z209]; decide)⟩)
            dsimp only [Pt.U, Pt.locs, Pt.cells, Pt.slots] at X212 l212 y212 z212 st212 hQ212
            have y212 : k212 = 2 := own_addeq y212 (congrArg (fun q => q) y209) rfl
            have z212 : n212 = 4 := own_addeq z212 (congrArg (fun q => q) z209) rfl
            obtain ⟨r213, rfl, N212q, hr_r213, e212⟩ := hQ212
            have N212 : Fr n0 L212 := by rw [l212]; exact Fr.app N209 N212q
            refine own_go (fun _ k => st212.trans k) ?_
            show own_Go _ _ _ _ T212 (mkF m 159 #[.val (.long q_1), .second, .val (.long q_2), .second, .val (.long q_3), .second, .val (.long q_4), .second, .val (.int p_5), .val (.long q_1), .second, .val (.long q_4), .second, .val (.int v150), .val (.ref b151), .val (.ref b161), .val (.int (0 : Int32))] [(.int r213)])
            have hc214 : ¬ (r213 = 0) := own_t0_20 q_1 q_2 q_4 r207 r210 r213 hc189 hr_r207 hc208 hr_r210 hc211 hr_r213
            refine own_go (fun _ k => XS.ifNo X212.here hx rfl (hb hby at_159) rfl (Jvm.Free.XT.i0_eq_f hc214) k) ?_
            show own_Go _ _ _ _ T212 (mkF m 162 #[.val (.long q_1), .second, .val (.long q_2), .second, .val (.long q_3), .second, .val (.long q_4), .second, .val (.int p_5), .val (.long q_1), .second, .val (.long q_4), .second, .val (.int v150), .val (.ref b151), .val (.ref b161), .val (.int (0 : Int32))] [])
            refine own_go (fun _ k => XS.iconst X212.here hx rfl (hb hby at_162) k) ?_
            show own_Go _ _ _ _ T212 (mkF m 163 #[.val (.long q_1), .second, .val (.long q_2), .second, .val (.long q_3), .second, .val (.long q_4), .second, .val (.int p_5), .val (.long q_1), .second, .val (.long q_4), .second, .val (.int v150), .val (.ref b151), .val (.ref b161), .val (.int (0 : Int32))] [(.int (1 : Int32))])
            refine own_go (fun _ k => XS.goto X212.here hx rfl (pc0 := 163) (pc' := 167) rfl (hb hby at_163) (by decide) (by decide) k) ?_
            show own_Go _ _ _ _ T212 (mkF m 167 #[.val (.long q_1), .second, .val (.long q_2), .second, .val (.long q_3), .second, .val (.long q_4), .second, .val (.int p_5), .val (.long q_1), .second, .val (.long q_4), .second, .val (.int v150), .val (.ref b151), .val (.ref b161), .val (.int (0 : Int32))] [(.int (1 : Int32))])
            obtain ⟨fs, hr, hrun, hended, hW, hsame⟩ := X212.leave (v := some (.int (1 : Int32))) (fun h => by rw [Bd.returns] at h; cases h)
            refine ⟨_, _, retOut X212 hx Bd.returns rfl (Or.inl ⟨rfl, Or.inr (Or.inl rfl), _, rfl⟩) (hb hby at_167) hr, hrun, hended, _, _, rfl, ?_, ⟨_, rfl⟩, hW, hsame.mono (by rw [y212]; decide) (by rw [z212]; decide)⟩
            show own_Q0 Z q_1 q_2 q_3 q_4 p_5 wsc g_ h0 n0 _ T212.heap _
            rw [e212]
            exact ⟨rfl, N212⟩
    · refine own_go (fun _ k => XS.ifNo X0.here hx rfl (hb hby at_19) rfl (Jvm.Free.XT.i0_eq_f hc149) k) ?_
      show own_Go _ _ _ _ s₁ (mkF m 22 #[.val (.long q_1), .second, .val (.long q_2), .second, .val (.long q_3), .second, .val (.long q_4), .second, .val (.int p_5), .val (.long q_1), .second, .unset, .unset, .unset, .unset, .unset, .unset] [])
      refine own_go (fun _ k => XS.lloadN X0.here hx rfl (hb hby at_22) rfl k) ?_
      show own_Go _ _ _ _ s₁ (mkF m 23 #[.val (.long q_1), .second, .val (.long q_2), .second, .val (.long q_3), .second, .val (.long q_4), .second, .val (.int p_5), .val (.long q_1), .second, .unset, .unset, .unset, .unset, .unset, .unset] [(.long q_2)])
      refine own_go (fun _ k => XS.goto X0.here hx rfl (pc0 := 23) (pc' := 28) rfl (hb hby at_23) (by decide) (by decide) k) ?_
      show own_Go _ _ _ _ s₁ (mkF m 28 #[.val (.long q_1), .second, .val (.long q_2), .second, .val (.long q_3), .second, .val (.long q_4), .second, .val (.int p_5), .val (.long q_1), .second, .unset, .unset, .unset, .unset, .unset, .unset] [(.long q_2)])
      refine own_go (fun _ k => XS.lstore X0.here hx rfl (hb hby at_28) rfl (l' := #[.val (.long q_1), .second, .val (.long q_2), .second, .val (.long q_3), .second, .val (.long q_4), .second, .val (.int p_5), .val (.long q_1), .second, .val (.long q_2), .second, .unset, .unset, .unset, .unset]) rfl k) ?_
      show own_Go _ _ _ _ s₁ (mkF m 30 #[.val (.long q_1), .second, .val (.long q_2), .second, .val (.long q_3), .second, .val (.long q_4), .second, .val (.int p_5), .val (.long q_1), .second, .val (.long q_2), .second, .unset, .unset, .unset, .unset] [])
      refine own_go (fun _ k => XS.iload X0.here hx rfl (hb hby at_30) rfl k) ?_
      show own_Go _ _ _ _ s₁ (mkF m 32 #[.val (.long q_1), .second, .val (.long q_2), .second, .val (.long q_3), .second, .val (.long q_4), .second, .val (.int p_5), .val (.long q_1), .second, .val (.long q_2), .second, .unset, .unset, .unset, .unset] [(.int p_5)])
      refine own_go (fun _ k => XS.iconst X0.here hx rfl (hb hby at_32) k) ?_
      show own_Go _ _ _ _ s₁ (mkF m 33 #[.val (.long q_1), .second, .val (.long q_2), .second, .val (.long q_3), .second, .val (.long q_4), .second, .val (.int p_5), .val (.long q_1), .second, .val (.long q_2), .second, .unset, .unset, .unset, .unset] [(.int (2 : Int32)), (.int p_5)])
      refine own_go (fun _ k => XS.iushr X0.here hx rfl (hb hby at_33) rfl k) ?_
      show own_Go _ _ _ _ s₁ (mkF m 34 #[.val (.long q_1), .second, .val (.long q_2), .second, .val (.long q_3), .second, .val (.long q_4), .second, .val (.int p_5), .val (.long q_1), .second, .val (.long q_2), .second, .unset, .unset, .unset, .unset] [(.int ((p_5.toUInt32 >>> ((2 : Int32) &&& 31).toUInt32).toInt32))])
      refine own_go (fun _ k => XS.iconst X0.here hx rfl (hb hby at_34) k) ?_
      show own_Go _ _ _ _ s₁ (mkF m 35 #[.val (.long q_1), .second, .val (.long q_2), .second, .val (.long q_3), .second, .val (.long q_4), .second, .val (.int p_5), .val (.long q_1), .second, .val (.long q_2), .second, .unset, .unset, .unset, .unset] [(.int (3 : Int32)), (.int ((p_5.toUInt32 >>> ((2 : Int32) &&& 31).toUInt32).toInt32))])
      refine own_go (fun _ k => XS.iand X0.here hx rfl (hb hby at_35) rfl k) ?_
      show own_Go _ _ _ _ s₁ (mkF m 36 #[.val (.long q_1), .second, .val (.long q_2), .second, .val (.long q_3), .second, .val (.long q_4), .second, .val (.int p_5), .val (.long q_1), .second, .val (.long q_2), .second, .unset, .unset, .unset, .unset] [(.int (((p_5.toUInt32 >>> ((2 : Int32) &&& 31).toUInt32).toInt32) &&& (3 : Int32)))])
      refine own_go (fun _ k => XS.istore X0.here hx rfl (hb hby at_36) rfl (l' := #[.val (.long q_1), .second, .val (.long q_2), .second, .val (.long q_3), .second, .val (.long q_4), .second, .val (.int p_5), .val (.long q_1), .second, .val (.long q_2), .second, .val (.int (((p_5.toUInt32 >>> ((2 : Int32) &&& 31).toUInt32).toInt32) &&& (3 : Int32))), .unset, .unset, .unset]) rfl k) ?_
      show own_Go _ _ _ _ s₁ (mkF m 38 #[.val (.long q_1), .second, .val (.long q_2), .second, .val (.long q_3), .second, .val (.long q_4), .second, .val (.int p_5), .val (.long q_1), .second, .val (.long q_2), .second, .val (.int (((p_5.toUInt32 >>> ((2 : Int32) &&& 31).toUInt32).toInt32) &&& (3 : Int32))), .unset, .unset, .unset] [])
      generalize hdv216 : (((p_5.toUInt32 >>> ((2 : Int32) &&& 31).toUInt32).toInt32) &&& (3 : Int32)) = v216
      show own_Go _ _ _ _ s₁ (mkF m 38 #[.val (.long q_1), .second, .val (.long q_2), .second, .val (.long q_3), .second, .val (.long q_4), .second, .val (.int p_5), .val (.long q_1), .second, .val (.long q_2), .second, .val (.int v216), .unset, .unset, .unset] [])
      obtain ⟨T217, h217, X217, e217, E217, A217, D217, Y217, st217⟩ := newO X0 hx hZ hown (hw _ (List.mem_of_getElem? (i := 0) rfl)) (hw _ (List.mem_of_getElem? (i := 1) rfl)) (hw _ (List.mem_of_getElem? (i := 2) rfl)) e0 (g := (mkF m 38 #[.val (.long q_1), .second, .val (.long q_2), .second, .val (.long q_3), .second, .val (.long q_4), .second, .val (.int p_5), .val (.long q_1), .second, .val (.long q_2), .second, .val (.int v216), .unset, .unset, .unset] [])) rfl (hb hby at_38) (by decide) (by decide)
      obtain ⟨b217, g217⟩ : ∃ z, z = h0.size := ⟨_, rfl⟩
      rw [← g217] at A217 D217 Y217 st217
      have z218 := E217.1
      have lt_b217 := own_lt A217.lt
      have K217 : Keep h0 h217 [] := K0.ext E217
      have F_observed_b217 : Fld Z h217 b217 "com/example/epsilonet/epsilonet/service/ObservationTree$Outcome" "observed" "J" (.long (0 : Int64)) := D217 (Or.inr (hw _ (List.mem_of_getElem? (i := 15) rfl))) (ty := .long) (by decide)
      have F_values_b217 : Fld Z h217 b217 "com/example/epsilonet/epsilonet/service/ObservationTree$Outcome" "values" "J" (.long (0 : Int64)) := D217 (Or.inr (hw _ (List.mem_of_getElem? (i := 17) rfl))) (ty := .long) (by decide)
      refine own_go (fun _ k => st217 _ k) ?_
      show own_Go _ _ _ _ T217 (mkF m 41 #[.val (.long q_1), .second, .val (.long q_2), .second, .val (.long q_3), .second, .val (.long q_4), .second, .val (.int p_5), .val (.long q_1), .second, .val (.long q_2), .second, .val (.int v216), .unset, .unset, .unset] [(.ref b217)])
      refine own_go (fun _ k => XS.dup X217.here hx rfl (hb hby at_41) rfl rfl k) ?_
      show own_Go _ _ _ _ T217 (mkF m 42 #[.val (.long q_1), .second, .val (.long q_2), .second, .val (.long q_3), .second, .val (.long q_4), .second, .val (.int p_5), .val (.long q_1), .second, .val (.long q_2), .second, .val (.int v216), .unset, .unset, .unset] [(.ref b217), (.ref b217)])
      refine own_go (fun _ k => XS.lloadN X217.here hx rfl (hb hby at_42) rfl k) ?_
      show own_Go _ _ _ _ T217 (mkF m 43 #[.val (.long q_1), .second, .val (.long q_2), .second, .val (.long q_3), .second, .val (.long q_4), .second, .val (.int p_5), .val (.long q_1), .second, .val (.long q_2), .second, .val (.int v216), .unset, .unset, .unset] [(.long q_1), (.ref b217), (.ref b217)])
      refine own_go (fun _ k => XS.lloadN X217.here hx rfl (hb hby at_43) rfl k) ?_
      show own_Go _ _ _ _ T217 (mkF m 44 #[.val (.long q_1), .second, .val (.long q_2), .second, .val (.long q_3), .second, .val (.long q_4), .second, .val (.int p_5), .val (.long q_1), .second, .val (.long q_2), .second, .val (.int v216), .unset, .unset, .unset] [(.long q_2), (.long q_1), (.ref b217), (.ref b217)])
      obtain ⟨_, _, ⟨T219, L219, k219, n219⟩, -, X219, ⟨Lc219, hQ219, l219, y219, z219⟩, st219⟩ := X217.specialBack hx (y := (⟨"com/example/epsilonet/epsilonet/service/ObservationTree$Outcome", "<init>", "(JJ)V"⟩ : MethodName)) rfl hown (mvT hZ (hw _ (List.mem_of_getElem? (i := 3) rfl))) (mvT hZ (hw _ (List.mem_of_getElem? (i := 4) rfl))) (mvT hZ (hw _ (List.mem_of_getElem? (i := 5) rfl))) (by decide) (backOf (W := 1) (own_rm1 l Z a0 hw [] b217 q_1 q_2 (0 : Int64) (0 : Int64) h217 n0 (by omega) A217 F_observed_b217 F_values_b217 (by omega)) hZ (hw _ (List.mem_of_getElem? (i := 5) rfl)) (hw _ (List.mem_of_getElem? (i := 2) rfl)) (by decide) (by decide)) (g := (mkF m 44 #[.val (.long q_1), .second, .val (.long q_2), .second, .val (.long q_3), .second, .val (.long q_4), .second, .val (.int p_5), .val (.long q_1), .second, .val (.long q_2), .second, .val (.int v216), .unset, .unset, .unset] [(.long q_2), (.long q_1), (.ref b217), (.ref b217)])) rfl (by rw [hml]; rfl) (Steps.refl _) (a := b217) (argsL := [(.long q_1), (.long q_2)]) (rest := [(.ref b217)]) (lenOf own_pd2 rfl) rfl (by show 2 * 0 + _ ≤ _; exact Nat.le_of_eq rfl) (hb hby at_44) (fun _ _ => ⟨rfl, e217, (by decide : 1 + 0 ≤ _), (by decide : 2 + 0 ≤ _)⟩)
      dsimp only [Pt.U, Pt.locs, Pt.cells, Pt.slots] at X219 l219 y219 z219 st219 hQ219
      have y219 : k219 = 1 := y219
      have z219 : n219 = 2 := z219
      obtain ⟨rfl, N219q, K219q, f220, f221, f222⟩ := hQ219
      have N219 : Fr n0 L219 := by rw [l219]; exact Fr.app N0 N219q
      have z223 := K219q.1
      have K219 : Keep h0 T219.heap [] := K217.trans K219q (allS (Or.inr (by omega)) all0)
      have z224 := own_lt f220.lt
      have z225 := own_lt f221.lt
      have z226 := own_lt f222.lt
      refine own_go (fun _ k => st219.trans k) ?_
      show own_Go _ _ _ _ T219 (mkF m 47 #[.val (.long q_1), .second, .val (.long q_2), .second, .val (.long q_3), .second, .val (.long q_4), .second, .val (.int p_5), .val (.long q_1), .second, .val (.long q_2), .second, .val (.int v216), .unset, .unset, .unset] [(.ref b217)])
      refine own_go (fun _ k => XS.astore X219.here hx rfl (hb hby at_47) rfl rfl (l' := #[.val (.long q_1), .second, .val (.long q_2), .second, .val (.long q_3), .second, .val (.long q_4), .second, .val (.int p_5), .val (.long q_1), .second, .val (.long q_2), .second, .val (.int v216), .val (.ref b217), .unset, .unset]) rfl k) ?_
      show own_Go _ _ _ _ T219 (mkF m 49 #[.val (.long q_1), .second, .val (.long q_2), .second, .val (.long q_3), .second, .val (.long q_4), .second, .val (.int p_5), .val (.long q_1), .second, .val (.long q_2), .second, .val (.int v216), .val (.ref b217), .unset, .unset] [])
      obtain ⟨T227, h227, X227, e227, E227, A227, D227, Y227, st227⟩ := newO X219 hx hZ hown (hw _ (List.mem_of_getElem? (i := 0) rfl)) (hw _ (List.mem_of_getElem? (i := 1) rfl)) (hw _ (List.mem_of_getElem? (i := 2) rfl)) rfl (g := (mkF m 49 #[.val (.long q_1), .second, .val (.long q_2), .second, .val (.long q_3), .second, .val (.long q_4), .second, .val (.int p_5), .val (.long q_1), .second, .val (.long q_2), .second, .val (.int v216), .val (.ref b217), .unset, .unset] [])) rfl (hb hby at_49) (by rw [y219]; decide) (by rw [z219]; decide)
      obtain ⟨b227, g227⟩ : ∃ z, z = T219.heap.size := ⟨_, rfl⟩
      rw [← g227] at A227 D227 Y227 st227
      have z228 := E227.1
      have lt_b227 := own_lt A227.lt
      have K227 : Keep h0 h227 [] := K219.ext E227
      have F_observed_b227 : Fld Z h227 b227 "com/example/epsilonet/epsilonet/service/ObservationTree$Outcome" "observed" "J" (.long (0 : Int64)) := D227 (Or.inr (hw _ (List.mem_of_getElem? (i := 15) rfl))) (ty := .long) (by decide)
      have F_values_b227 : Fld Z h227 b227 "com/example/epsilonet/epsilonet/service/ObservationTree$Outcome" "values" "J" (.long (0 : Int64)) := D227 (Or.inr (hw _ (List.mem_of_getElem? (i := 17) rfl))) (ty := .long) (by decide)
      refine own_go (fun _ k => st227 _ k) ?_
      show own_Go _ _ _ _ T227 (mkF m 52 #[.val (.long q_1), .second, .val (.long q_2), .second, .val (.long q_3), .second, .val (.long q_4), .second, .val (.int p_5), .val (.long q_1), .second, .val (.long q_2), .second, .val (.int v216), .val (.ref b217), .unset, .unset] [(.ref b227)])
      refine own_go (fun _ k => XS.dup X227.here hx rfl (hb hby at_52) rfl rfl k) ?_
      show own_Go _ _ _ _ T227 (mkF m 53 #[.val (.long q_1), .second, .val (.long q_2), .second, .val (.long q_3), .second, .val (.long q_4), .second, .val (.int p_5), .val (.long q_1), .second, .val (.long q_2), .second, .val (.int v216), .val (.ref b217), .unset, .unset] [(.ref b227), (.ref b227)])
      refine own_go (fun _ k => XS.lload X227.here hx rfl (hb hby at_53) rfl k) ?_
      show own_Go _ _ _ _ T227 (mkF m 55 #[.val (.long q_1), .second, .val (.long q_2), .second, .val (.long q_3), .second, .val (.long q_4), .second, .val (.int p_5), .val (.long q_1), .second, .val (.long q_2), .second, .val (.int v216), .val (.ref b217), .unset, .unset] [(.long q_1), (.ref b227), (.ref b227)])
      refine own_go (fun _ k => XS.lload X227.here hx rfl (hb hby at_55) rfl k) ?_
      show own_Go _ _ _ _ T227 (mkF m 57 #[.val (.long q_1), .second, .val (.long q_2), .second, .val (.long q_3), .second, .val (.long q_4), .second, .val (.int p_5), .val (.long q_1), .second, .val (.long q_2), .second, .val (.int v216), .val (.ref b217), .unset, .unset] [(.long q_2), (.long q_1), (.ref b227), (.ref b227)])
      obtain ⟨_, _, ⟨T229, L229, k229, n229⟩, -, X229, ⟨Lc229, hQ229, l229, y229, z229⟩, st229⟩ := X227.specialBack hx (y := (⟨"com/example/epsilonet/epsilonet/service/ObservationTree$Outcome", "<init>", "(JJ)V"⟩ : MethodName)) rfl hown (mvT hZ (hw _ (List.mem_of_getElem? (i := 3) rfl))) (mvT hZ (hw _ (List.mem_of_getElem? (i := 4) rfl))) (mvT hZ (hw _ (List.mem_of_getElem? (i := 5) rfl))) (by decide) (backOf (W := 1) (own_rm1 l Z a0 hw [] b227 q_1 q_2 (0 : Int64) (0 : Int64) h227 n0 (by omega) A227 F_observed_b227 F_values_b227 (by omega)) hZ (hw _ (List.mem_of_getElem? (i := 5) rfl)) (hw _ (List.mem_of_getElem? (i := 2) rfl)) (by decide) (by decide)) (g := (mkF m 57 #[.val (.long q_1), .second, .val (.long q_2), .second, .val (.long q_3), .second, .val (.long q_4), .second, .val (.int p_5), .val (.long q_1), .second, .val (.long q_2), .second, .val (.int v216), .val (.ref b217), .unset, .unset] [(.long q_2), (.long q_1), (.ref b227), (.ref b227)])) rfl (by rw [hml]; rfl) (Steps.refl _) (a := b227) (argsL := [(.long q_1), (.long q_2)]) (rest := [(.ref b227)]) (lenOf own_pd2 rfl) rfl (by show 2 * 0 + _ ≤ _; exact Nat.le_of_eq rfl) (hb hby at_57) (fun _ _ => ⟨rfl, e227, (by show k219 + 1 + _ ≤ _; rw [y219]; decide), (by show n219 + 2 + _ ≤ _; rw [z219]; decide)⟩)
      dsimp only [Pt.U, Pt.locs, Pt.cells, Pt.slots] at X229 l229 y229 z229 st229 hQ229
      have y229 : k229 = 2 := own_addeq y229 (congrArg (fun q => q + 1) y219) rfl
      have z229 : n229 = 4 := own_addeq z229 (congrArg (fun q => q + 2) z219) rfl
      obtain ⟨rfl, N229q, K229q, f230, f231, f232⟩ := hQ229
      have N229 : Fr n0 L229 := by rw [l229]; exact Fr.app N219 N229q
      have z233 := K229q.1
      have K229 : Keep h0 T229.heap [] := K227.trans K229q (allS (Or.inr (by omega)) all0)
      have z234 := own_lt f230.lt
      have z235 := own_lt f231.lt
      have z236 := own_lt f232.lt
      refine own_go (fun _ k => st229.trans k) ?_
      show own_Go _ _ _ _ T229 (mkF m 60 #[.val (.long q_1), .second, .val (.long q_2), .second, .val (.long q_3), .second, .val (.long q_4), .second, .val (.int p_5), .val (.long q_1), .second, .val (.long q_2), .second, .val (.int v216), .val (.ref b217), .unset, .unset] [(.ref b227)])
      refine own_go (fun _ k => XS.astore X229.here hx rfl (hb hby at_60) rfl rfl (l' := #[.val (.long q_1), .second, .val (.long q_2), .second, .val (.long q_3), .second, .val (.long q_4), .second, .val (.int p_5), .val (.long q_1), .second, .val (.long q_2), .second, .val (.int v216), .val (.ref b217), .val (.ref b227), .unset]) rfl k) ?_
      show own_Go _ _ _ _ T229 (mkF m 62 #[.val (.long q_1), .second, .val (.long q_2), .second, .val (.long q_3), .second, .val (.long q_4), .second, .val (.int p_5), .val (.long q_1), .second, .val (.long q_2), .second, .val (.int v216), .val (.ref b217), .val (.ref b227), .unset] [])
      refine own_go (fun _ k => XS.iload X229.here hx rfl (hb hby at_62) rfl k) ?_
      show own_Go _ _ _ _ T229 (mkF m 64 #[.val (.long q_1), .second, .val (.long q_2), .second, .val (.long q_3), .second, .val (.long q_4), .second, .val (.int p_5), .val (.long q_1), .second, .val (.long q_2), .second, .val (.int v216), .val (.ref b217), .val (.ref b227), .unset] [(.int v216)])
      refine own_go (fun _ k => XS.iconst X229.here hx rfl (hb hby at_64) k) ?_
      show own_Go _ _ _ _ T229 (mkF m 65 #[.val (.long q_1), .second, .val (.long q_2), .second, .val (.long q_3), .second, .val (.long q_4), .second, .val (.int p_5), .val (.long q_1), .second, .val (.long q_2), .second, .val (.int v216), .val (.ref b217), .val (.ref b227), .unset] [(.int (1 : Int32)), (.int v216)])
      by_cases hc237 : v216 = (1 : Int32)
      · refine own_go (fun _ k => XS.icmpNo X229.here hx rfl (hb hby at_65) rfl (Jvm.Free.XT.ii_ne_f hc237) k) ?_
        show own_Go _ _ _ _ T229 (mkF m 68 #[.val (.long q_1), .second, .val (.long q_2), .second, .val (.long q_3), .second, .val (.long q_4), .second, .val (.int p_5), .val (.long q_1), .second, .val (.long q_2), .second, .val (.int v216), .val (.ref b217), .val (.ref b227), .unset] [])
        refine own_go (fun _ k => XS.aload X229.here hx rfl (hb hby at_68) rfl rfl k) ?_
        show own_Go _ _ _ _ T229 (mkF m 70 #[.val (.long q_1), .second, .val (.long q_2), .second, .val (.long q_3), .second, .val (.long q_4), .second, .val (.int p_5), .val (.long q_1), .second, .val (.long q_2), .second, .val (.int v216), .val (.ref b217), .val (.ref b227), .unset] [(.ref b217)])
        refine own_go (fun _ k => XS.aconstNull X229.here hx rfl (hb hby at_70) k) ?_
        show own_Go _ _ _ _ T229 (mkF m 71 #[.val (.long q_1), .second, .val (.long q_2), .second, .val (.long q_3), .second, .val (.long q_4), .second, .val (.int p_5), .val (.long q_1), .second, .val (.long q_2), .second, .val (.int v216), .val (.ref b217), .val (.ref b227), .unset] [.null, (.ref b217)])
        have f239 : Exa Z T229.heap b217 "com/example/epsilonet/epsilonet/service/ObservationTree$Outcome" := ((f220.ext E227).keep K229q)
        obtain ⟨cq238, kq238, q238a, q238b, q238c⟩ := isOf hZ rfl f239
        obtain ⟨_, _, ⟨T238, L238, k238, n238⟩, -, X238, ⟨Lc238, hQ238, l238, y238, z238⟩, st238⟩ := X229.virtualBack hx (y := (⟨"com/example/epsilonet/epsilonet/service/ObservationTree$Outcome", "equals", "(Ljava/lang/Object;)Z"⟩ : MethodName)) (z := (⟨"com/example/epsilonet/epsilonet/service/ObservationTree$Outcome", "equals", "(Ljava/lang/Object;)Z"⟩ : MethodName)) hown (mvT hZ (hw _ (List.mem_of_getElem? (i := 18) rfl))) (mvT hZ (hw _ (List.mem_of_getElem? (i := 19) rfl))) (notFace_of_selects (args := #[]) (mvT hZ (hw _ (List.mem_of_getElem? (i := 21) rfl)))) (mvT hZ (hw _ (List.mem_of_getElem? (i := 21) rfl))) (mvT hZ (hw _ (List.mem_of_getElem? (i := 20) rfl))) (by decide) (backOf (W := 0) (own_rm4n l Z a0 hw [] b217  T229.heap n0 (by omega) ) hZ (hw _ (List.mem_of_getElem? (i := 22) rfl)) (hw _ (List.mem_of_getElem? (i := 2) rfl)) (by decide) (by decide)) q238a q238c (g := (mkF m 71 #[.val (.long q_1), .second, .val (.long q_2), .second, .val (.long q_3), .second, .val (.long q_4), .second, .val (.int p_5), .val (.long q_1), .second, .val (.long q_2), .second, .val (.int v216), .val (.ref b217), .val (.ref b227), .unset] [.null, (.ref b217)])) rfl (by rw [hml]; rfl) (Steps.refl _) (argsL := [.null]) (rest := []) (lenOf own_pd3 rfl) rfl (by show 2 * 0 + _ ≤ _; exact Nat.le_of_eq rfl) (hb hby at_71) (fun _ _ => ⟨rfl, rfl, (by show k229 + _ ≤ _; rw [y229]; decide), (by show n229 + _ ≤ _; rw [z229]; decide)⟩)
        dsimp only [Pt.U, Pt.locs, Pt.cells, Pt.slots] at X238 l238 y238 z238 st238 hQ238
        have y238 : k238 = 2 := own_addeq y238 (congrArg (fun q => q) y229) rfl
        have z238 : n238 = 4 := own_addeq z238 (congrArg (fun q => q) z229) rfl
        obtain ⟨rfl, N238q, e238⟩ := hQ238
        have N238 : Fr n0 L238 := by rw [l238]; exact Fr.app N229 N238q
        refine own_go (fun _ k => st238.trans k) ?_
        show own_Go _ _ _ _ T238 (mkF m 74 #[.val (.long q_1), .second, .val (.long q_2), .second, .val (.long q_3), .second, .val (.long q_4), .second, .val (.int p_5), .val (.long q_1), .second, .val (.long q_2), .second, .val (.int v216), .val (.ref b217), .val (.ref b227), .unset] [(.int (0 : Int32))])
        have hc240 : (0 : Int32) = 0 := by decide
        refine own_go (fun _ k => XS.ifNo X238.here hx rfl (hb hby at_74) rfl (Jvm.Free.XT.i0_ne_f hc240) k) ?_
        show own_Go _ _ _ _ T238 (mkF m 77 #[.val (.long q_1), .second, .val (.long q_2), .second, .val (.long q_3), .second, .val (.long q_4), .second, .val (.int p_5), .val (.long q_1), .second, .val (.long q_2), .second, .val (.int v216), .val (.ref b217), .val (.ref b227), .unset] [])
        refine own_go (fun _ k => XS.iconst X238.here hx rfl (hb hby at_77) k) ?_
        show own_Go _ _ _ _ T238 (mkF m 78 #[.val (.long q_1), .second, .val (.long q_2), .second, .val (.long q_3), .second, .val (.long q_4), .second, .val (.int p_5), .val (.long q_1), .second, .val (.long q_2), .second, .val (.int v216), .val (.ref b217), .val (.ref b227), .unset] [(.int (1 : Int32))])
        refine own_go (fun _ k => XS.goto X238.here hx rfl (pc0 := 78) (pc' := 82) rfl (hb hby at_78) (by decide) (by decide) k) ?_
        show own_Go _ _ _ _ T238 (mkF m 82 #[.val (.long q_1), .second, .val (.long q_2), .second, .val (.long q_3), .second, .val (.long q_4), .second, .val (.int p_5), .val (.long q_1), .second, .val (.long q_2), .second, .val (.int v216), .val (.ref b217), .val (.ref b227), .unset] [(.int (1 : Int32))])
        obtain ⟨fs, hr, hrun, hended, hW, hsame⟩ := X238.leave (v := some (.int (1 : Int32))) (fun h => by rw [Bd.returns] at h; cases h)
        refine ⟨_, _, retOut X238 hx Bd.returns rfl (Or.inl ⟨rfl, Or.inr (Or.inl rfl), _, rfl⟩) (hb hby at_82) hr, hrun, hended, _, _, rfl, ?_, ⟨_, rfl⟩, hW, hsame.mono (by rw [y238]; decide) (by rw [z238]; decide)⟩
        show own_Q0 Z q_1 q_2 q_3 q_4 p_5 wsc g_ h0 n0 _ T238.heap _
        rw [e238]
        exact ⟨rfl, N238⟩
      · refine own_go (fun _ k => XS.icmpYes X229.here hx rfl (pc0 := 65) (pc' := 83) rfl (hb hby at_65) rfl (Jvm.Free.XT.ii_ne_t hc237) (by decide) (by decide) k) ?_
        show own_Go _ _ _ _ T229 (mkF m 83 #[.val (.long q_1), .second, .val (.long q_2), .second, .val (.long q_3), .second, .val (.long q_4), .second, .val (.int p_5), .val (.long q_1), .second, .val (.long q_2), .second, .val (.int v216), .val (.ref b217), .val (.ref b227), .unset] [])
        refine own_go (fun _ k => XS.iload X229.here hx rfl (hb hby at_83) rfl k) ?_
        show own_Go _ _ _ _ T229 (mkF m 85 #[.val (.long q_1), .second, .val (.long q_2), .second, .val (.long q_3), .second, .val (.long q_4), .second, .val (.int p_5), .val (.long q_1), .second, .val (.long q_2), .second, .val (.int v216), .val (.ref b217), .val (.ref b227), .unset] [(.int v216)])
        refine own_go (fun _ k => XS.iconst X229.here hx rfl (hb hby at_85) k) ?_
        show own_Go _ _ _ _ T229 (mkF m 86 #[.val (.long q_1), .second, .val (.long q_2), .second, .val (.long q_3), .second, .val (.long q_4), .second, .val (.int p_5), .val (.long q_1), .second, .val (.long q_2), .second, .val (.int v216), .val (.ref b217), .val (.ref b227), .unset] [(.int (2 : Int32)), (.int v216)])
        by_cases hc242 : v216 = (2 : Int32)
        · refine own_go (fun _ k => XS.icmpNo X229.here hx rfl (hb hby at_86) rfl (Jvm.Free.XT.ii_ne_f hc242) k) ?_
          show own_Go _ _ _ _ T229 (mkF m 89 #[.val (.long q_1), .second, .val (.long q_2), .second, .val (.long q_3), .second, .val (.long q_4), .second, .val (.int p_5), .val (.long q_1), .second, .val (.long q_2), .second, .val (.int v216), .val (.ref b217), .val (.ref b227), .unset] [])
          refine own_go (fun _ k => XS.aload X229.here hx rfl (hb hby at_89) rfl rfl k) ?_
          show own_Go _ _ _ _ T229 (mkF m 91 #[.val (.long q_1), .second, .val (.long q_2), .second, .val (.long q_3), .second, .val (.long q_4), .second, .val (.int p_5), .val (.long q_1), .second, .val (.long q_2), .second, .val (.int v216), .val (.ref b217), .val (.ref b227), .unset] [(.ref b217)])
          refine own_go (fun _ k => XS.lloadN X229.here hx rfl (hb hby at_91) rfl k) ?_
          show own_Go _ _ _ _ T229 (mkF m 92 #[.val (.long q_1), .second, .val (.long q_2), .second, .val (.long q_3), .second, .val (.long q_4), .second, .val (.int p_5), .val (.long q_1), .second, .val (.long q_2), .second, .val (.int v216), .val (.ref b217), .val (.ref b227), .unset] [(.long q_1), (.ref b217)])
          have f243 : Sta Z T229.heap "java/lang/Long$LongCache" "cache" "[Ljava/lang/Long;" (.ref wsc) := (own_sta_keep ((own_sta_keep (pr_S_java_lang_Long_LongCache_cache.ext E217) K219q (allS (own_exa_plain A217) all0)).ext E227) K229q (allS (own_exa_plain A227) all0))
          have f244 : own_AV Z T229.heap wsc (.object "java/lang/Long") (256 : Int32) g_ := ((((pr_A_wsc.ext E217).keep K219q (ninS (own_ne (by omega)) nin0)).ext E227).keep K229q (ninS (own_ne (by omega)) nin0))
          obtain ⟨_, _, ⟨T245, L245, k245, n245⟩, -, X245, ⟨Lc245, hQ245, l245, y245, z245⟩, st245⟩ := Jvm.LawKit.callS X229 hx (y := (⟨"java/lang/Long", "valueOf", "(J)Ljava/lang/Long;"⟩ : MethodName)) hown (mvT hZ (hw _ (List.mem_of_getElem? (i := 25) rfl))) (mvT hZ (hw _ (List.mem_of_getElem? (i := 26) rfl))) (mvT hZ (hw _ (List.mem_of_getElem? (i := 27) rfl))) (mvT hZ (hw _ (List.mem_of_getElem? (i := 28) rfl))) (by decide) (backOf (W := 1) (own_rm5 l Z a0 hw [] q_1 wsc g_ T229.heap n0 (by omega) f243 f244 (fun i hi => by obtain ⟨a, e1, e2⟩ := hcache i hi; exact ⟨a, e1, e2.keep K229⟩)) hZ (hw _ (List.mem_of_getElem? (i := 28) rfl)) (hw _ (List.mem_of_getElem? (i := 27) rfl)) (by decide) (by decide)) (g := (mkF m 92 #[.val (.long q_1), .second, .val (.long q_2), .second, .val (.long q_3), .second, .val (.long q_4), .second, .val (.int p_5), .val (.long q_1), .second, .val (.long q_2), .second, .val (.int v216), .val (.ref b217), .val (.ref b227), .unset] [(.long q_1), (.ref b217)])) rfl (by rw [hml]; rfl) (argsL := [(.long q_1)]) (rest := [(.ref b217)]) (lenOf own_pd4 rfl) rfl (by show 2 * 0 + _ ≤ _; exact Nat.le_of_eq rfl) (hb hby at_92) (fun _ _ => ⟨rfl, rfl, (by show k229 + _ ≤ _; rw [y229]; decide), (by show n229 + _ ≤ _; rw [z229]; decide)⟩)
          dsimp only [Pt.U, Pt.locs, Pt.cells, Pt.slots] at X245 l245 y245 z245 st245 hQ245
          have y245 : k245 = 3 := own_addeq y245 (congrArg (fun q => q) y229) rfl
          have z245 : n245 = 5 := own_addeq z245 (congrArg (fun q => q) z229) rfl
          obtain ⟨b246, rfl, N245q, K245q, f247⟩ := hQ245
          have N245 : Fr n0 L245 := by rw [l245]; exact Fr.app N229 N245q
          have z248 := K245q.1
          have K245 : Keep h0 T245.heap [] := K229.trans K245q all0
          have z249 := own_lt f247.lt
          refine own_go (fun _ k => st245 _ k) ?_
          show own_Go _ _ _ _ T245 (mkF m 95 #[.val (.long q_1), .second, .val (.long q_2), .second, .val (.long q_3), .second, .val (.long q_4), .second, .val (.int p_5), .val (.long q_1), .second, .val (.long q_2), .second, .val (.int v216), .val (.ref b217), .val (.ref b227), .unset] [(.ref b246), (.ref b217)])
          have f251 : Exa Z T245.heap b217 "com/example/epsilonet/epsilonet/service/ObservationTree$Outcome" := (((f220.ext E227).keep K229q).keep K245q)
          obtain ⟨cq250, kq250, q250a, q250b, q250c⟩ := isOf hZ rfl f251
          obtain ⟨_, _, ⟨T250, L250, k250, n250⟩, -, X250, ⟨Lc250, hQ250, l250, y250, z250⟩, st250⟩ := X245.virtualBack hx (y := (⟨"com/example/epsilonet/epsilonet/service/ObservationTree$Outcome", "equals", "(Ljava/lang/Object;)Z"⟩ : MethodName)) (z := (⟨"com/example/epsilonet/epsilonet/service/ObservationTree$Outcome", "equals", "(Ljava/lang/Object;)Z"⟩ : MethodName)) hown (mvT hZ (hw _ (List.mem_of_getElem? (i := 18) rfl))) (mvT hZ (hw _ (List.mem_of_getElem? (i := 19) rfl))) (notFace_of_selects (args := #[]) (mvT hZ (hw _ (List.mem_of_getElem? (i := 21) rfl)))) (mvT hZ (hw _ (List.mem_of_getElem? (i := 21) rfl))) (mvT hZ (hw _ (List.mem_of_getElem? (i := 20) rfl))) (by decide) (backOf (W := 0) (own_rm4l l Z a0 hw [] b217 b246  T245.heap n0 (by omega) f247) hZ (hw _ (List.mem_of_getElem? (i := 22) rfl)) (hw _ (List.mem_of_getElem? (i := 2) rfl)) (by decide) (by decide)) q250a q250c (g := (mkF m 95 #[.val (.long q_1), .second, .val (.long q_2), .second, .val (.long q_3), .second, .val (.long q_4), .second, .val (.int p_5), .val (.long q_1), .second, .val (.long q_2), .second, .val (.int v216), .val (.ref b217), .val (.ref b227), .unset] [(.ref b246), (.ref b217)])) rfl (by rw [hml]; rfl) (Steps.refl _) (argsL := [(.ref b246)]) (rest := []) (lenOf own_pd3 rfl) rfl (by show 2 * 0 + _ ≤ _; exact Nat.le_of_eq rfl) (hb hby at_95) (fun _ _ => ⟨rfl, rfl, (by show k245 + _ ≤ _; rw [y245]; decide), (by show n245 + _ ≤ _; rw [z245]; decide)⟩)
          dsimp only [Pt.U, Pt.locs, Pt.cells, Pt.slots] at X250 l250 y250 z250 st250 hQ250
          have y250 : k250 = 3 := own_addeq y250 (congrArg (fun q => q) y245) rfl
          have z250 : n250 = 5 := own_addeq z250 (congrArg (fun q => q) z245) rfl
          obtain ⟨rfl, N250q, e250⟩ := hQ250
          have N250 : Fr n0 L250 := by rw [l250]; exact Fr.app N245 N250q
          refine own_go (fun _ k => st250.trans k) ?_
          show own_Go _ _ _ _ T250 (mkF m 98 #[.val (.long q_1), .second, .val (.long q_2), .second, .val (.long q_3), .second, .val (.long q_4), .second, .val (.int p_5), .val (.long q_1), .second, .val (.long q_2), .second, .val (.int v216), .val (.ref b217), .val (.ref b227), .unset] [(.int (0 : Int32))])
          have hc252 : (0 : Int32) = 0 := by decide
          refine own_go (fun _ k => XS.ifNo X250.here hx rfl (hb hby at_98) rfl (Jvm.Free.XT.i0_ne_f hc252) k) ?_
          show own_Go _ _ _ _ T250 (mkF m 101 #[.val (.long q_1), .second, .val (.long q_2), .second, .val (.long q_3), .second, .val (.long q_4), .second, .val (.int p_5), .val (.long q_1), .second, .val (.long q_2), .second, .val (.int v216), .val (.ref b217), .val (.ref b227), .unset] [])
          refine own_go (fun _ k => XS.iconst X250.here hx rfl (hb hby at_101) k) ?_
          show own_Go _ _ _ _ T250 (mkF m 102 #[.val (.long q_1), .second, .val (.long q_2), .second, .val (.long q_3), .second, .val (.long q_4), .second, .val (.int p_5), .val (.long q_1), .second, .val (.long q_2), .second, .val (.int v216), .val (.ref b217), .val (.ref b227), .unset] [(.int (1 : Int32))])
          refine own_go (fun _ k => XS.goto X250.here hx rfl (pc0 := 102) (pc' := 106) rfl (hb hby at_102) (by decide) (by decide) k) ?_
          show own_Go _ _ _ _ T250 (mkF m 106 #[.val (.long q_1), .second, .val (.long q_2), .second, .val (.long q_3), .second, .val (.long q_4), .second, .val (.int p_5), .val (.long q_1), .second, .val (.long q_2), .second, .val (.int v216), .val (.ref b217), .val (.ref b227), .unset] [(.int (1 : Int32))])
          obtain ⟨fs, hr, hrun, hended, hW, hsame⟩ := X250.leave (v := some (.int (1 : Int32))) (fun h => by rw [Bd.returns] at h; cases h)
          refine ⟨_, _, retOut X250 hx Bd.returns rfl (Or.inl ⟨rfl, Or.inr (Or.inl rfl), _, rfl⟩) (hb hby at_106) hr, hrun, hended, _, _, rfl, ?_, ⟨_, rfl⟩, hW, hsame.mono (by rw [y250]; decide) (by rw [z250]; decide)⟩
          show own_Q0 Z q_1 q_2 q_3 q_4 p_5 wsc g_ h0 n0 _ T250.heap _
          rw [e250]
          exact ⟨rfl, N250⟩
        · refine own_go (fun _ k => XS.icmpYes X229.here hx rfl (pc0 := 86) (pc' := 107) rfl (hb hby at_86) rfl (Jvm.Free.XT.ii_ne_t hc242) (by decide) (by decide) k) ?_
          show own_Go _ _ _ _ T229 (mkF m 107 #[.val (.long q_1), .second, .val (.long q_2), .second, .val (.long q_3), .second, .val (.long q_4), .second, .val (.int p_5), .val (.long q_1), .second, .val (.long q_2), .second, .val (.int v216), .val (.ref b217), .val (.ref b227), .unset] [])
          refine own_go (fun _ k => XS.lloadN X229.here hx rfl (hb hby at_107) rfl k) ?_
          show own_Go _ _ _ _ T229 (mkF m 108 #[.val (.long q_1), .second, .val (.long q_2), .second, .val (.long q_3), .second, .val (.long q_4), .second, .val (.int p_5), .val (.long q_1), .second, .val (.long q_2), .second, .val (.int v216), .val (.ref b217), .val (.ref b227), .unset] [(.long q_1)])
          refine own_go (fun _ k => XS.lload X229.here hx rfl (hb hby at_108) rfl k) ?_
          show own_Go _ _ _ _ T229 (mkF m 110 #[.val (.long q_1), .second, .val (.long q_2), .second, .val (.long q_3), .second, .val (.long q_4), .second, .val (.int p_5), .val (.long q_1), .second, .val (.long q_2), .second, .val (.int v216), .val (.ref b217), .val (.ref b227), .unset] [(.long q_1), (.long q_1)])
          refine own_go (fun _ k => XS.lcmp X229.here hx rfl (hb hby at_110) rfl k) ?_
          show own_Go _ _ _ _ T229 (mkF m 111 #[.val (.long q_1), .second, .val (.long q_2), .second, .val (.long q_3), .second, .val (.long q_4), .second, .val (.int p_5), .val (.long q_1), .second, .val (.long q_2), .second, .val (.int v216), .val (.ref b217), .val (.ref b227), .unset] [(.int (lcmpW q_1 q_1))])
          have hc254 : q_1 = q_1 := rfl
          refine own_go (fun _ k => XS.ifNo X229.here hx rfl (hb hby at_111) rfl (Jvm.Free.XT.ll_ne_f hc254) k) ?_
          show own_Go _ _ _ _ T229 (mkF m 114 #[.val (.long q_1), .second, .val (.long q_2), .second, .val (.long q_3), .second, .val (.long q_4), .second, .val (.int p_5), .val (.long q_1), .second, .val (.long q_2), .second, .val (.int v216), .val (.ref b217), .val (.ref b227), .unset] [])
          refine own_go (fun _ k => XS.lloadN X229.here hx rfl (hb hby at_114) rfl k) ?_
          show own_Go _ _ _ _ T229 (mkF m 115 #[.val (.long q_1), .second, .val (.long q_2), .second, .val (.long q_3), .second, .val (.long q_4), .second, .val (.int p_5), .val (.long q_1), .second, .val (.long q_2), .second, .val (.int v216), .val (.ref b217), .val (.ref b227), .unset] [(.long q_2)])
          refine own_go (fun _ k => XS.lload X229.here hx rfl (hb hby at_115) rfl k) ?_
          show own_Go _ _ _ _ T229 (mkF m 117 #[.val (.long q_1), .second, .val (.long q_2), .second, .val (.long q_3), .second, .val (.long q_4), .second, .val (.int p_5), .val (.long q_1), .second, .val (.long q_2), .second, .val (.int v216), .val (.ref b217), .val (.ref b227), .unset] [(.long q_2), (.long q_2)])
          refine own_go (fun _ k => XS.lcmp X229.here hx rfl (hb hby at_117) rfl k) ?_
          show own_Go _ _ _ _ T229 (mkF m 118 #[.val (.long q_1), .second, .val (.long q_2), .second, .val (.long q_3), .second, .val (.long q_4), .second, .val (.int p_5), .val (.long q_1), .second, .val (.long q_2), .second, .val (.int v216), .val (.ref b217), .val (.ref b227), .unset] [(.int (lcmpW q_2 q_2))])
          have hc255 : q_2 = q_2 := rfl
          refine own_go (fun _ k => XS.ifNo X229.here hx rfl (hb hby at_118) rfl (Jvm.Free.XT.ll_ne_f hc255) k) ?_
          show own_Go _ _ _ _ T229 (mkF m 121 #[.val (.long q_1), .second, .val (.long q_2), .second, .val (.long q_3), .second, .val (.long q_4), .second, .val (.int p_5), .val (.long q_1), .second, .val (.long q_2), .second, .val (.int v216), .val (.ref b217), .val (.ref b227), .unset] [])
          refine own_go (fun _ k => XS.iconst X229.here hx rfl (hb hby at_121) k) ?_
          show own_Go _ _ _ _ T229 (mkF m 122 #[.val (.long q_1), .second, .val (.long q_2), .second, .val (.long q_3), .second, .val (.long q_4), .second, .val (.int p_5), .val (.long q_1), .second, .val (.long q_2), .second, .val (.int v216), .val (.ref b217), .val (.ref b227), .unset] [(.int (1 : Int32))])
          refine own_go (fun _ k => XS.goto X229.here hx rfl (pc0 := 122) (pc' := 126) rfl (hb hby at_122) (by decide) (by decide) k) ?_
          show own_Go _ _ _ _ T229 (mkF m 126 #[.val (.long q_1), .second, .val (.long q_2), .second, .val (.long q_3), .second, .val (.long q_4), .second, .val (.int p_5), .val (.long q_1), .second, .val (.long q_2), .second, .val (.int v216), .val (.ref b217), .val (.ref b227), .unset] [(.int (1 : Int32))])
          refine own_go (fun _ k => XS.istore X229.here hx rfl (hb hby at_126) rfl (l' := #[.val (.long q_1), .second, .val (.long q_2), .second, .val (.long q_3), .second, .val (.long q_4), .second, .val (.int p_5), .val (.long q_1), .second, .val (.long q_2), .second, .val (.int v216), .val (.ref b217), .val (.ref b227), .val (.int (1 : Int32))]) rfl k) ?_
          show own_Go _ _ _ _ T229 (mkF m 128 #[.val (.long q_1), .second, .val (.long q_2), .second, .val (.long q_3), .second, .val (.long q_4), .second, .val (.int p_5), .val (.long q_1), .second, .val (.long q_2), .second, .val (.int v216), .val (.ref b217), .val (.ref b227), .val (.int (1 : Int32))] [])
          refine own_go (fun _ k => XS.aload X229.here hx rfl (hb hby at_128) rfl rfl k) ?_
          show own_Go _ _ _ _ T229 (mkF m 130 #[.val (.long q_1), .second, .val (.long q_2), .second, .val (.long q_3), .second, .val (.long q_4), .second, .val (.int p_5), .val (.long q_1), .second, .val (.long q_2), .second, .val (.int v216), .val (.ref b217), .val (.ref b227), .val (.int (1 : Int32))] [(.ref b217)])
          refine own_go (fun _ k => XS.aload X229.here hx rfl (hb hby at_130) rfl rfl k) ?_
          show own_Go _ _ _ _ T229 (mkF m 132 #[.val (.long q_1), .second, .val (.long q_2), .second, .val (.long q_3), .second, .val (.long q_4), .second, .val (.int p_5), .val (.long q_1), .second, .val (.long q_2), .second, .val (.int v216), .val (.ref b217), .val (.ref b227), .val (.int (1 : Int32))] [(.ref b227), (.ref b217)])
          have f256 : Fld Z T229.heap b217 "com/example/epsilonet/epsilonet/service/ObservationTree$Outcome" "observed" "J" (.long q_1) := ((f221.ext E227).keep K229q (ninS (own_ne (by omega)) nin0))
          have f257 : Fld Z T229.heap b217 "com/example/epsilonet/epsilonet/service/ObservationTree$Outcome" "values" "J" (.long q_2) := ((f222.ext E227).keep K229q (ninS (own_ne (by omega)) nin0))
          have f259 : Exa Z T229.heap b217 "com/example/epsilonet/epsilonet/service/ObservationTree$Outcome" := ((f220.ext E227).keep K229q)
          obtain ⟨cq258, kq258, q258a, q258b, q258c⟩ := isOf hZ rfl f259
          obtain ⟨_, _, ⟨T258, L258, k258, n258⟩, -, X258, ⟨Lc258, hQ258, l258, y258, z258⟩, st258⟩ := X229.virtualBack hx (y := (⟨"com/example/epsilonet/epsilonet/service/ObservationTree$Outcome", "equals", "(Ljava/lang/Object;)Z"⟩ : MethodName)) (z := (⟨"com/example/epsilonet/epsilonet/service/ObservationTree$Outcome", "equals", "(Ljava/lang/Object;)Z"⟩ : MethodName)) hown (mvT hZ (hw _ (List.mem_of_getElem? (i := 18) rfl))) (mvT hZ (hw _ (List.mem_of_getElem? (i := 19) rfl))) (notFace_of_selects (args := #[]) (mvT hZ (hw _ (List.mem_of_getElem? (i := 21) rfl)))) (mvT hZ (hw _ (List.mem_of_getElem? (i := 21) rfl))) (mvT hZ (hw _ (List.mem_of_getElem? (i := 20) rfl))) (by decide) (backOf (W := 0) (own_rm4 l Z a0 hw [] b217 b227 q_1 q_1 q_2 q_2 T229.heap n0 (by omega) f230 f256 f231 f257 f232) hZ (hw _ (List.mem_of_getElem? (i := 22) rfl)) (hw _ (List.mem_of_getElem? (i := 2) rfl)) (by decide) (by decide)) q258a q258c (g := (mkF m 132 #[.val (.long q_1), .second, .val (.long q_2), .second, .val (.long q_3), .second, .val (.long q_4), .second, .val (.int p_5), .val (.long q_1), .second, .val (.long q_2), .second, .val (.int v216), .val (.ref b217), .val (.ref b227), .val (.int (1 : Int32))] [(.ref b227), (.ref b217)])) rfl (by rw [hml]; rfl) (Steps.refl _) (argsL := [(.ref b227)]) (rest := []) (lenOf own_pd3 rfl) rfl (by show 2 * 0 + _ ≤ _; exact Nat.le_of_eq rfl) (hb hby at_132) (fun _ _ => ⟨rfl, rfl, (by show k229 + _ ≤ _; rw [y229]; decide), (by show n229 + _ ≤ _; rw [z229]; decide)⟩)
          dsimp only [Pt.U, Pt.locs, Pt.cells, Pt.slots] at X258 l258 y258 z258 st258 hQ258
          have y258 : k258 = 2 := own_addeq y258 (congrArg (fun q => q) y229) rfl
          have z258 : n258 = 4 := own_addeq z258 (congrArg (fun q => q) z229) rfl
          obtain ⟨r260, rfl, N258q, hr_r260, e258⟩ := hQ258
          have N258 : Fr n0 L258 := by rw [l258]; exact Fr.app N229 N258q
          refine own_go (fun _ k => st258.trans k) ?_
          show own_Go _ _ _ _ T258 (mkF m 135 #[.val (.long q_1), .second, .val (.long q_2), .second, .val (.long q_3), .second, .val (.long q_4), .second, .val (.int p_5), .val (.long q_1), .second, .val (.long q_2), .second, .val (.int v216), .val (.ref b217), .val (.ref b227), .val (.int (1 : Int32))] [(.int r260)])
          refine own_go (fun _ k => XS.iload X258.here hx rfl (hb hby at_135) rfl k) ?_
          show own_Go _ _ _ _ T258 (mkF m 137 #[.val (.long q_1), .second, .val (.long q_2), .second, .val (.long q_3), .second, .val (.long q_4), .second, .val (.int p_5), .val (.long q_1), .second, .val (.long q_2), .second, .val (.int v216), .val (.ref b217), .val (.ref b227), .val (.int (1 : Int32))] [(.int (1 : Int32)), (.int r260)])
          have hc261 : r260 = (1 : Int32) := own_t0_21 q_1 q_2 r260 hr_r260
          refine own_go (fun _ k => XS.icmpNo X258.here hx rfl (hb hby at_137) rfl (Jvm.Free.XT.ii_ne_f hc261) k) ?_
          show own_Go _ _ _ _ T258 (mkF m 140 #[.val (.long q_1), .second, .val (.long q_2), .second, .val (.long q_3), .second, .val (.long q_4), .second, .val (.int p_5), .val (.long q_1), .second, .val (.long q_2), .second, .val (.int v216), .val (.ref b217), .val (.ref b227), .val (.int (1 : Int32))] [])
          refine own_go (fun _ k => XS.aload X258.here hx rfl (hb hby at_140) rfl rfl k) ?_
          show own_Go _ _ _ _ T258 (mkF m 142 #[.val (.long q_1), .second, .val (.long q_2), .second, .val (.long q_3), .second, .val (.long q_4), .second, .val (.int p_5), .val (.long q_1), .second, .val (.long q_2), .second, .val (.int v216), .val (.ref b217), .val (.ref b227), .val (.int (1 : Int32))] [(.ref b227)])
          refine own_go (fun _ k => XS.aload X258.here hx rfl (hb hby at_142) rfl rfl k) ?_
          show own_Go _ _ _ _ T258 (mkF m 144 #[.val (.long q_1), .second, .val (.long q_2), .second, .val (.long q_3), .second, .val (.long q_4), .second, .val (.int p_5), .val (.long q_1), .second, .val (.long q_2), .second, .val (.int v216), .val (.ref b217), .val (.ref b227), .val (.int (1 : Int32))] [(.ref b217), (.ref b227)])
          obtain ⟨cq262, kq262, q262a, q262b, q262c⟩ := isOf hZ e258 f230
          obtain ⟨_, _, ⟨T262, L262, k262, n262⟩, -, X262, ⟨Lc262, hQ262, l262, y262, z262⟩, st262⟩ := X258.virtualBack hx (y := (⟨"com/example/epsilonet/epsilonet/service/ObservationTree$Outcome", "equals", "(Ljava/lang/Object;)Z"⟩ : MethodName)) (z := (⟨"com/example/epsilonet/epsilonet/service/ObservationTree$Outcome", "equals", "(Ljava/lang/Object;)Z"⟩ : MethodName)) hown (mvT hZ (hw _ (List.mem_of_getElem? (i := 18) rfl))) (mvT hZ (hw _ (List.mem_of_getElem? (i := 19) rfl))) (notFace_of_selects (args := #[]) (mvT hZ (hw _ (List.mem_of_getElem? (i := 21) rfl)))) (mvT hZ (hw _ (List.mem_of_getElem? (i := 21) rfl))) (mvT hZ (hw _ (List.mem_of_getElem? (i := 20) rfl))) (by decide) (backOf (W := 0) (own_rm4 l Z a0 hw [] b227 b217 q_1 q_1 q_2 q_2 T229.heap n0 (by omega) f259 f231 f256 f232 f257) hZ (hw _ (List.mem_of_getElem? (i := 22) rfl)) (hw _ (List.mem_of_getElem? (i := 2) rfl)) (by decide) (by decide)) q262a q262c (g := (mkF m 144 #[.val (.long q_1), .second, .val (.long q_2), .second, .val (.long q_3), .second, .val (.long q_4), .second, .val (.int p_5), .val (.long q_1), .second, .val (.long q_2), .second, .val (.int v216), .val (.ref b217), .val (.ref b227), .val (.int (1 : Int32))] [(.ref b217), (.ref b227)])) rfl (by rw [hml]; rfl) (Steps.refl _) (argsL := [(.ref b217)]) (rest := []) (lenOf own_pd3 rfl) rfl (by show 2 * 0 + _ ≤ _; exact Nat.le_of_eq rfl) (hb hby at_144) (fun _ _ => ⟨rfl, e258, (by show k258 + _ ≤ _; rw [y258]; decide), (by show n258 + _ ≤ _; rw [z258]; decide)⟩)
          dsimp only [Pt.U, Pt.locs, Pt.cells, Pt.slots] at X262 l262 y262 z262 st262 hQ262
          have y262 : k262 = 2 := own_addeq y262 (congrArg (fun q => q) y258) rfl
          have z262 : n262 = 4 := own_addeq z262 (congrArg (fun q => q) z258) rfl
          obtain ⟨r263, rfl, N262q, hr_r263, e262⟩ := hQ262
          have N262 : Fr n0 L262 := by rw [l262]; exact Fr.app N258 N262q
          refine own_go (fun _ k => st262.trans k) ?_
          show own_Go _ _ _ _ T262 (mkF m 147 #[.val (.long q_1), .second, .val (.long q_2), .second, .val (.long q_3), .second, .val (.long q_4), .second, .val (.int p_5), .val (.long q_1), .second, .val (.long q_2), .second, .val (.int v216), .val (.ref b217), .val (.ref b227), .val (.int (1 : Int32))] [(.int r263)])
          refine own_go (fun _ k => XS.iload X262.here hx rfl (hb hby at_147) rfl k) ?_
          show own_Go _ _ _ _ T262 (mkF m 149 #[.val (.long q_1), .second, .val (.long q_2), .second, .val (.long q_3), .second, .val (.long q_4), .second, .val (.int p_5), .val (.long q_1), .second, .val (.long q_2), .second, .val (.int v216), .val (.ref b217), .val (.ref b227), .val (.int (1 : Int32))] [(.int (1 : Int32)), (.int r263)])
          have hc264 : r263 = (1 : Int32) := own_t0_22 q_1 q_2 r260 r263 hr_r260 hc261 hr_r263
          refine own_go (fun _ k => XS.icmpNo X262.here hx rfl (hb hby at_149) rfl (Jvm.Free.XT.ii_ne_f hc264) k) ?_
          show own_Go _ _ _ _ T262 (mkF m 152 #[.val (.long q_1), .second, .val (.long q_2), .second, .val (.long q_3), .second, .val (.long q_4), .second, .val (.int p_5), .val (.long q_1), .second, .val (.long q_2), .second, .val (.int v216), .val (.ref b217), .val (.ref b227), .val (.int (1 : Int32))] [])
          refine own_go (fun _ k => XS.aload X262.here hx rfl (hb hby at_152) rfl rfl k) ?_
          show own_Go _ _ _ _ T262 (mkF m 154 #[.val (.long q_1), .second, .val (.long q_2), .second, .val (.long q_3), .second, .val (.long q_4), .second, .val (.int p_5), .val (.long q_1), .second, .val (.long q_2), .second, .val (.int v216), .val (.ref b217), .val (.ref b227), .val (.int (1 : Int32))] [(.ref b217)])
          refine own_go (fun _ k => XS.aload X262.here hx rfl (hb hby at_154) rfl rfl k) ?_
          show own_Go _ _ _ _ T262 (mkF m 156 #[.val (.long q_1), .second, .val (.long q_2), .second, .val (.long q_3), .second, .val (.long q_4), .second, .val (.int p_5), .val (.long q_1), .second, .val (.long q_2), .second, .val (.int v216), .val (.ref b217), .val (.ref b227), .val (.int (1 : Int32))] [(.ref b217), (.ref b217)])
          obtain ⟨cq265, kq265, q265a, q265b, q265c⟩ := isOf hZ e262 f259
          obtain ⟨_, _, ⟨T265, L265, k265, n265⟩, -, X265, ⟨Lc265, hQ265, l265, y265, z265⟩, st265⟩ := X262.virtualBack hx (y := (⟨"com/example/epsilonet/epsilonet/service/ObservationTree$Outcome", "equals", "(Ljava/lang/Object;)Z"⟩ : MethodName)) (z := (⟨"com/example/epsilonet/epsilonet/service/ObservationTree$Outcome", "equals", "(Ljava/lang/Object;)Z"⟩ : MethodName)) hown (mvT hZ (hw _ (List.mem_of_getElem? (i := 18) rfl))) (mvT hZ (hw _ (List.mem_of_getElem? (i := 19) rfl))) (notFace_of_selects (args := #[]) (mvT hZ (hw _ (List.mem_of_getElem? (i := 21) rfl)))) (mvT hZ (hw _ (List.mem_of_getElem? (i := 21) rfl))) (mvT hZ (hw _ (List.mem_of_getElem? (i := 20) rfl))) (by decide) (backOf (W := 0) (own_rm4 l Z a0 hw [] b217 b217 q_1 q_1 q_2 q_2 T229.heap n0 (by omega) f259 f256 f256 f257 f257) hZ (hw _ (List.mem_of_getElem? (i := 22) rfl)) (hw _ (List.mem_of_getElem? (i := 2) rfl)) (by decide) (by decide)) q265a q265c (g := (mkF m 156 #[.val (.long q_1), .second, .val (.long q_2), .second, .val (.long q_3), .second, .val (.long q_4), .second, .val (.int p_5), .val (.long q_1), .second, .val (.long q_2), .second, .val (.int v216), .val (.ref b217), .val (.ref b227), .val (.int (1 : Int32))] [(.ref b217), (.ref b217)])) rfl (by rw [hml]; rfl) (Steps.refl _) (argsL := [(.ref b217)]) (rest := []) (lenOf own_pd3 rfl) rfl (by show 2 * 0 + _ ≤ _; exact Nat.le_of_eq rfl) (hb hby at_156) (fun _ _ => ⟨rfl, e262, (by show k262 + _ ≤ _; rw [y262]; decide), (by show n262 + _ ≤ _; rw [z262]; decide)⟩)
          dsimp only [Pt.U, Pt.locs, Pt.cells, Pt.slots] at X265 l265 y265 z265 st265 hQ265
          have y265 : k265 = 2 := own_addeq y265 (congrArg (fun q => q) y262) rfl
          have z265 : n265 = 4 := own_addeq z265 (congrArg (fun q => q) z262) rfl
          obtain ⟨r266, rfl, N265q, hr_r266, e265⟩ := hQ265
          have N265 : Fr n0 L265 := by rw [l265]; exact Fr.app N262 N265q
          refine own_go (fun _ k => st265.trans k) ?_
          show own_Go _ _ _ _ T265 (mkF m 159 #[.val (.long q_1), .second, .val (.long q_2), .second, .val (.long q_3), .second, .val (.long q_4), .second, .val (.int p_5), .val (.long q_1), .second, .val (.long q_2), .second, .val (.int v216), .val (.ref b217), .val (.ref b227), .val (.int (1 : Int32))] [(.int r266)])
          have hc267 : ¬ (r266 = 0) := own_t0_23 q_1 q_2 r260 r263 r266 hr_r260 hc261 hr_r263 hc264 hr_r266
          refine own_go (fun _ k => XS.ifNo X265.here hx rfl (hb hby at_159) rfl (Jvm.Free.XT.i0_eq_f hc267) k) ?_
          show own_Go _ _ _ _ T265 (mkF m 162 #[.val (.long q_1), .second, .val (.long q_2), .second, .val (.long q_3), .second, .val (.long q_4), .second, .val (.int p_5), .val (.long q_1), .second, .val (.long q_2), .second, .val (.int v216), .val (.ref b217), .val (.ref b227), .val (.int (1 : Int32))] [])
          refine own_go (fun _ k => XS.iconst X265.here hx rfl (hb hby at_162) k) ?_
          show own_Go _ _ _ _ T265 (mkF m 163 #[.val (.long q_1), .second, .val (.long q_2), .second, .val (.long q_3), .second, .val (.long q_4), .second, .val (.int p_5), .val (.long q_1), .second, .val (.long q_2), .second, .val (.int v216), .val (.ref b217), .val (.ref b227), .val (.int (1 : Int32))] [(.int (1 : Int32))])
          refine own_go (fun _ k => XS.goto X265.here hx rfl (pc0 := 163) (pc' := 167) rfl (hb hby at_163) (by decide) (by decide) k) ?_
          show own_Go _ _ _ _ T265 (mkF m 167 #[.val (.long q_1), .second, .val (.long q_2), .second, .val (.long q_3), .second, .val (.long q_4), .second, .val (.int p_5), .val (.long q_1), .second, .val (.long q_2), .second, .val (.int v216), .val (.ref b217), .val (.ref b227), .val (.int (1 : Int32))] [(.int (1 : Int32))])
          obtain ⟨fs, hr, hrun, hended, hW, hsame⟩ := X265.leave (v := some (.int (1 : Int32))) (fun h => by rw [Bd.returns] at h; cases h)
          refine ⟨_, _, retOut X265 hx Bd.returns rfl (Or.inl ⟨rfl, Or.inr (Or.inl rfl), _, rfl⟩) (hb hby at_167) hr, hrun, hended, _, _, rfl, ?_, ⟨_, rfl⟩, hW, hsame.mono (by rw [y265]; decide) (by rw [z265]; decide)⟩
          show own_Q0 Z q_1 q_2 q_3 q_4 p_5 wsc g_ h0 n0 _ T265.heap _
          rw [e265]
          exact ⟨rfl, N265⟩
set_option maxRecDepth 65536 in
set_option maxHeartbeats 40000000 in
theorem comes_1 {Post : Tables → Env → Array Value → State → Outcome → State → Prop} (hpost : ∀ tb e args s v u, (limb_1_1.after args s (.returned v) u = true ∧ limb_1_2.after args s (.returned v) u = true ∧ True) → FrameEnd s (.returned v) u (Jvm.fieldLocs frame_1_writes args s ++ Jvm.arrayLocs frame_1_arrays args s ++ Jvm.staticLocs frame_1_statics s) 16 128 → Post tb e args s (.returned v) u) :
    ArmFor flags0 classFile x code maxLocals ret World_1 tables_1 room_1 Calls_1 rest_1 Pre_1 Post := by
  intro l hfl _ _ p e ha hc hk s m args below hf hA hF happ hP
  obtain ⟨hcalls, hrest, hpre⟩ := hP
  obtain ⟨-, -, -, hnamed, -, -, -, hat⟩ := (Spec.applies_iff hf).mp happ
  obtain ⟨hg, hn⟩ := and_e (Cond.before_iff.mp (show (Jvm.Cond.and given_1 narrow_1).before args s = true from hpre))
  obtain ⟨g1, g2⟩ := and_e hg
  obtain ⟨g3, g4⟩ := and_e g2
  obtain ⟨g5, g6⟩ := and_e g4
  obtain ⟨g7, g8⟩ := and_e g6
  obtain ⟨g9, g10⟩ := and_e g8
  obtain ⟨w0, w1, w2, w3, w4, rfl⟩ : ∃ w0 w1 w2 w3 w4 : Value, args = #[w0, w1, w2, w3, w4] := by
    have hs : args.size = 5 := by simpa [Cond.value, given_1] using g1
    obtain ⟨L⟩ := args
    match L, hs with
    | [w0, w1, w2, w3, w4], _ => exact ⟨w0, w1, w2, w3, w4, rfl⟩
  have hw := fun d (hd : d ∈ tables_1) => atoms_spec (ws := Jvm.Cond.code x code maxLocals ret :: tables_1) hat d (List.mem_cons_of_mem _ hd)
  have hfit : Fit s := fun {y c} hc i hi => by
    obtain ⟨ha, rfl⟩ := Array.getElem?_eq_some_iff.mp hc
    have q := List.all_eq_true.mp ((Array.all_eq_true_iff_forall_mem.mp hF) _ (Array.getElem_mem ha)) i (List.mem_range.mpr hi)
    simpa [Array.getElem?_eq_getElem hi] using q
  obtain ⟨hsets, hown0⟩ := atoms_of _ (rest_1_c_eq ▸ (show rest_1_c.before _ s = true from hrest))
  have hr0 := Cond.before_iff.mp hown0
  obtain ⟨i0, ei0⟩ := isL_v g3
  obtain rfl : w0 = (.long i0) := Option.some.inj ei0
  obtain ⟨i1, ei1⟩ := isL_v g5
  obtain rfl : w1 = (.long i1) := Option.some.inj ei1
  obtain ⟨i2, ei2⟩ := isL_v g7
  obtain rfl : w2 = (.long i2) := Option.some.inj ei2
  obtain ⟨i3, ei3⟩ := isL_v g9
  obtain rfl : w3 = (.long i3) := Option.some.inj ei3
  obtain ⟨i4, ei4⟩ := is_v g10
  obtain rfl : w4 = (.int i4) := Option.some.inj ei4
  obtain ⟨wsc, ews⟩ := arr_v (Cond.before_iff.mp (hsets _ (List.mem_of_getElem? (i := 2) rfl)))
  have pS := Sta.start ews (Or.inl (hsets _ (List.mem_of_getElem? (i := 1) rfl)))
  obtain ⟨cc, Ac, hA, hsz⟩ := own_arr_start ews (Cond.before_iff.mp (hsets _ (List.mem_of_getElem? (i := 2) rfl))) (Cond.before_iff.mp (hsets _ (List.mem_of_getElem? (i := 4) rfl))) (by decide)
  obtain ⟨g_, hg_⟩ : ∃ g : Nat → Value, g = fun i => (cc.slots[i]?).getD .null := ⟨_, rfl⟩
  have pA : own_AV s s.heap wsc (.object "java/lang/Long") (256 : Int32) g_ := ⟨by decide, cc, Ac, hsz, fun i hi => by rw [hg_]; simp [hi]⟩
  have pH : ∀ i, i < (256 : Int32).toNatClampNeg → ∃ a, g_ i = .ref a ∧ Exa s s.heap a "java/lang/Long" := fun i hi => by
    have q := Cond.all_elim ews hA (Cond.before_iff.mp (hsets _ (List.mem_of_getElem? (i := 5) rfl))) i (by rw [hsz]; exact hi)
    obtain ⟨q1, -⟩ := and_e q
    obtain ⟨a, ea⟩ := exa_v q1
    have hi2 : i < 2147483648 := Nat.lt_trans hi (by decide)
    have e2 := (own_elem (fun idx => ews) hA hi2).symm.trans ea
    exact ⟨a, by rw [hg_]; simp [e2], exa_at ea q1⟩
  obtain ⟨n, o, h1, h2, h3, _, L, rfl, ⟨rfl, N⟩, hq⟩ := own_rm0 l s _ hw tables_1 i0 i1 i2 i3 i4 wsc g_ s.heap s.heap.size (Nat.le_refl _) pS pA pH p e ha hc hk s m _ below hf ((Spec.applies_iff_loose hf).mp happ).1 ⟨rfl, State.Warmed39.refl s, rfl⟩ trivial
  refine ⟨n, _, h1, h2, h3, hpost _ _ _ _ _ _ ⟨Cond.after_iff.mpr rfl, Cond.after_iff.mpr (eq_i res_at (Term.int_eval (1)) rfl), trivial⟩ ⟨hq.1, hq.2.1, (hq.2.2.sift fun y hy => Or.inr (N y hy)).mono (by decide) (by decide)⟩⟩
theorem main_1_1 : Claimed_1_1 := comes_1 fun _ _ _ _ _ _ h hF => ⟨h.1, hF⟩
theorem main_1_2 : Claimed_1_2 := comes_1 fun _ _ _ _ _ _ h hF => ⟨h.2.1, hF⟩
end Jvm.Pilot.@@N@@
namespace Jvm.Pilot.@@N@@
open Jvm Jvm.ClassFile Sem Op Lib Jvm.Free Jvm.Stand Jvm.Pilot.@@N@@.Jvm.D
/-! MADE BY PROGRAM (witnessworld.py) out of the Statement's table words and the real class files: 17 classes; the members and pool entries that the words name. The judged class is class 1, her method 1. -/
namespace start1
open Jvm.ClassFile
def u (s : String) : CpInfo := .utf8 (stringToUtf16 s)
/-- a pool by its gaps: so many unusable entries, then the entry; so many at the end -/
def gap : Nat → List CpInfo → List CpInfo
  | 0, r => r
  | n + 1, r => .unusable :: gap n r
def poolList (es : List (Nat × CpInfo)) (last : Nat) : List CpInfo := es.foldr (fun e r => gap e.1 (e.2 :: r)) (gap last [])
def pool (es : List (Nat × CpInfo)) (last : Nat) : Array CpInfo := ⟨poolList es last⟩
def fileOf (pool : Array CpInfo) (this : Nat) (attrs : Array Attribute := #[]) (ms : Array MethodInfo := #[]) (fl : Nat := 33) (sup : Nat := 0) (ifs : Array Nat := #[]) (fds : Array FieldInfo := #[]) : ClassFile where
  minorVersion := 0
  majorVersion := 65
  constantPool := pool
  accessFlags := fl
  thisClass := this
  superClass := sup
  interfaces := ifs
  fields := fds
  methods := ms
  attributes := attrs
def plain (name : String) (sup : Option ClassId) : Class where
  name := name
  kind := .ordinary
  loader := none
  accessFlags := 33
  super := sup
  interfaces := #[]
  cf := none
  fields := #[]
  methods := #[]
  instanceTypes := #[]
  staticTypes := #[]
  resolved := #[]
  callSites := []
  init := .initialized
  statics := none
  mirror := none

def pool0 : Array CpInfo := pool [(5, u "<init>"), (0, u "()V"), (1, .class_ 10), (1, u "java/lang/Object")] 113

def k0c0 : Code := { maxStack := 0, maxLocals := 1, code := object_method_1_code, exceptionTable := #[], attributes := #[] }
def k0m0 : Method := { name := "<init>", desc := "()V", sig := { parameters := [], returnType := none }, accessFlags := 1, code := some k0c0 }
/-- java/lang/Object -/
def k0 : Class := { plain "java/lang/Object" none with
  accessFlags := 33
  interfaces := #[]
  cf := some (fileOf pool0 8 #[] #[{ accessFlags := 1, nameIndex := 5, descriptorIndex := 6, attributes := #[] }] 33 0 #[] #[])
  fields := #[]
  methods := #[k0m0]
  instanceTypes := #[]
  staticTypes := #[]
  resolved := Array.replicate 124 none
  statics := none }

def pool1 : Array CpInfo := pool [(2, .class_ 4), (1, u "java/lang/Object"), (0, u "<init>"), (0, u "()V"), (0, .class_ 8), (0, u "com/example/epsilonet/epsilonet/service/ObservationTree$Outcome"), (0, .methodref 7 10), (0, .nameAndType 5 11), (0, u "(JJ)V"), (0, .methodref 7 13), (0, .nameAndType 14 15), (0, u "equals"), (0, u "(Ljava/lang/Object;)Z"), (0, .methodref 17 18), (0, .class_ 19), (0, .nameAndType 20 21), (0, u "java/lang/Long"), (0, u "valueOf"), (0, u "(J)Ljava/lang/Long;"), (0, .class_ 23), (0, u "com/example/epsilonet/epsilonet/service/OutcomeEqualsPinLaw"), (2, u "law"), (0, u "(JJJJI)Z")] 7

def k1m0 : Method := { name := "<init>", desc := "()V", sig := { parameters := [], returnType := none }, accessFlags := 1, code := none }
def k1c1 : Code := { maxStack := 6, maxLocals := 17, code := code, exceptionTable := #[], attributes := #[] }
def k1m1 : Method := { name := "law", desc := "(JJJJI)Z", sig := { parameters := [.long, .long, .long, .long, .int], returnType := some .boolean }, accessFlags := 9, code := some k1c1 }
/-- com/example/epsilonet/epsilonet/service/OutcomeEqualsPinLaw -/
def k1 : Class := { plain "com/example/epsilonet/epsilonet/service/OutcomeEqualsPinLaw" (some 0) with
  accessFlags := 49
  interfaces := #[]
  cf := some (fileOf pool1 22 #[] #[{ accessFlags := 1, nameIndex := 5, descriptorIndex := 6, attributes := #[] }, { accessFlags := 9, nameIndex := 26, descriptorIndex := 27, attributes := #[] }] 49 2 #[] #[])
  fields := #[]
  methods := #[k1m0, k1m1]
  instanceTypes := #[]
  staticTypes := #[]
  resolved := Array.replicate 35 none
  statics := none }

def pool2 : Array CpInfo := pool [(1, .methodref 2 3), (0, .class_ 4), (0, .nameAndType 5 6), (0, u "java/lang/Object"), (0, u "<init>"), (0, u "()V"), (0, .class_ 8), (0, u "java/lang/Record")] 13

def k2c0 : Code := { maxStack := 1, maxLocals := 1, code := jdk_30_method_1_code, exceptionTable := #[], attributes := #[] }
def k2m0 : Method := { name := "<init>", desc := "()V", sig := { parameters := [], returnType := none }, accessFlags := 4, code := some k2c0 }
/-- java/lang/Record -/
def k2 : Class := { plain "java/lang/Record" (some 0) with
  accessFlags := 1057
  interfaces := #[]
  cf := some (fileOf pool2 7 #[] #[{ accessFlags := 4, nameIndex := 5, descriptorIndex := 6, attributes := #[] }] 1057 2 #[] #[])
  fields := #[]
  methods := #[k2m0]
  instanceTypes := #[]
  staticTypes := #[]
  resolved := Array.replicate 22 none
  statics := none }

def pool3 : Array CpInfo := pool [(1, .methodref 2 3), (0, .class_ 4), (0, .nameAndType 5 6), (0, u "java/lang/Record"), (0, u "<init>"), (0, u "()V"), (0, .fieldref 8 9), (0, .class_ 10), (0, .nameAndType 11 12), (0, u "com/example/epsilonet/epsilonet/service/ObservationTree$Outcome"), (0, u "observed"), (0, u "J"), (0, .fieldref 8 14), (0, .nameAndType 15 12), (0, u "values"), (12, u "(JJ)V"), (6, u "equals"), (0, u "(Ljava/lang/Object;)Z"), (6, .class_ 44), (0, u "com/example/epsilonet/epsilonet/service/ObservationTree")] 20

def k3c0 : Code := { maxStack := 3, maxLocals := 5, code := prog_38_method_1_code, exceptionTable := #[], attributes := #[] }
def k3m0 : Method := { name := "<init>", desc := "(JJ)V", sig := { parameters := [.long, .long], returnType := none }, accessFlags := 0, code := some k3c0 }
def k3c1 : Code := { maxStack := 4, maxLocals := 3, code := prog_38_method_3_code, exceptionTable := #[], attributes := #[] }
def k3m1 : Method := { name := "equals", desc := "(Ljava/lang/Object;)Z", sig := { parameters := [(.object "java/lang/Object")], returnType := some .boolean }, accessFlags := 1, code := some k3c1 }
/-- com/example/epsilonet/epsilonet/service/ObservationTree$Outcome -/
def k3 : Class := { plain "com/example/epsilonet/epsilonet/service/ObservationTree$Outcome" (some 2) with
  accessFlags := 48
  interfaces := #[]
  cf := some (fileOf pool3 8 #[.nestHost 43] #[{ accessFlags := 0, nameIndex := 5, descriptorIndex := 28, attributes := #[] }, { accessFlags := 1, nameIndex := 35, descriptorIndex := 36, attributes := #[] }] 48 2 #[] #[{ accessFlags := 18, nameIndex := 11, descriptorIndex := 12, attributes := #[] }, { accessFlags := 18, nameIndex := 15, descriptorIndex := 12, attributes := #[] }])
  fields := #[{ name := "observed", type := .long, accessFlags := 18, slot := 0, constantValue := 0 }, { name := "values", type := .long, accessFlags := 18, slot := 1, constantValue := 0 }]
  methods := #[k3m0, k3m1]
  instanceTypes := #[.long, .long]
  staticTypes := #[]
  resolved := Array.replicate 65 none
  statics := none }

def pool4 : Array CpInfo := pool [(1, .class_ 2), (0, u "java/io/Serializable"), (0, .class_ 4), (0, u "java/lang/Object")] 2

/-- java/io/Serializable -/
def k4 : Class := { plain "java/io/Serializable" (some 0) with
  accessFlags := 1537
  interfaces := #[]
  cf := some (fileOf pool4 1 #[] #[] 1537 3 #[] #[])
  fields := #[]
  methods := #[]
  instanceTypes := #[]
  staticTypes := #[]
  resolved := Array.replicate 7 none
  statics := none }

def pool5 : Array CpInfo := pool [(1, .methodref 2 3), (0, .class_ 4), (0, .nameAndType 5 6), (0, u "java/lang/Object"), (0, u "<init>"), (0, u "()V"), (1, .class_ 10), (1, u "java/lang/Number"), (2, .class_ 14), (0, u "java/io/Serializable"), (0, u "serialVersionUID"), (0, u "J")] 20

def k5c0 : Code := { maxStack := 1, maxLocals := 1, code := jdk_18_method_1_code, exceptionTable := #[], attributes := #[] }
def k5m0 : Method := { name := "<init>", desc := "()V", sig := { parameters := [], returnType := none }, accessFlags := 1, code := some k5c0 }
/-- java/lang/Number -/
def k5 : Class := { plain "java/lang/Number" (some 0) with
  accessFlags := 1057
  interfaces := #[4]
  cf := some (fileOf pool5 8 #[] #[{ accessFlags := 1, nameIndex := 5, descriptorIndex := 6, attributes := #[] }] 1057 2 #[13] #[{ accessFlags := 26, nameIndex := 15, descriptorIndex := 16, attributes := #[] }])
  fields := #[{ name := "serialVersionUID", type := .long, accessFlags := 26, slot := 0, constantValue := 0 }]
  methods := #[k5m0]
  instanceTypes := #[]
  staticTypes := #[.long]
  resolved := Array.replicate 37 none
  statics := none }

def pool6 : Array CpInfo := pool [(1, .class_ 2), (0, u "java/lang/Comparable"), (0, .class_ 4), (0, u "java/lang/Object")] 7

/-- java/lang/Comparable -/
def k6 : Class := { plain "java/lang/Comparable" (some 0) with
  accessFlags := 1537
  interfaces := #[]
  cf := some (fileOf pool6 1 #[] #[] 1537 3 #[] #[])
  fields := #[]
  methods := #[]
  instanceTypes := #[]
  staticTypes := #[]
  resolved := Array.replicate 12 none
  statics := none }

def pool7 : Array CpInfo := pool [(1, .class_ 2), (0, u "java/lang/constant/Constable"), (0, .class_ 4), (0, u "java/lang/Object")] 6

/-- java/lang/constant/Constable -/
def k7 : Class := { plain "java/lang/constant/Constable" (some 0) with
  accessFlags := 1537
  interfaces := #[]
  cf := some (fileOf pool7 1 #[] #[] 1537 3 #[] #[])
  fields := #[]
  methods := #[]
  instanceTypes := #[]
  staticTypes := #[]
  resolved := Array.replicate 11 none
  statics := none }

def pool8 : Array CpInfo := pool [(1, .class_ 2), (0, u "java/lang/constant/ConstantDesc"), (0, .class_ 4), (0, u "java/lang/Object")] 32

/-- java/lang/constant/ConstantDesc -/
def k8 : Class := { plain "java/lang/constant/ConstantDesc" (some 0) with
  accessFlags := 1537
  interfaces := #[]
  cf := some (fileOf pool8 1 #[] #[] 1537 3 #[] #[])
  fields := #[]
  methods := #[]
  instanceTypes := #[]
  staticTypes := #[]
  resolved := Array.replicate 37 none
  statics := none }

def pool9 : Array CpInfo := pool [(1, .class_ 2), (0, u "java/lang/Long"), (55, .nameAndType 59 60), (0, u "<init>"), (0, u "()V"), (24, u "valueOf"), (143, u "(J)Ljava/lang/Long;"), (0, .long 18446744073709551488), (1, .long 127), (1, .fieldref 235 236), (0, .class_ 237), (0, .nameAndType 238 239), (0, u "java/lang/Long$LongCache"), (0, u "cache"), (0, u "[Ljava/lang/Long;"), (0, .methodref 1 241), (0, .nameAndType 59 242), (0, u "(J)V"), (27, .methodref 271 58), (0, .class_ 272), (0, u "java/lang/Number"), (0, .fieldref 1 274), (0, .nameAndType 275 276), (0, u "value"), (0, u "J"), (84, u "TYPE"), (0, u "Ljava/lang/Class;"), (0, .class_ 364), (0, u "java/lang/Comparable"), (0, .class_ 366), (0, u "java/lang/constant/Constable"), (0, .class_ 368), (0, u "java/lang/constant/ConstantDesc"), (0, u "MIN_VALUE"), (1, u "MAX_VALUE"), (4, u "SIZE"), (0, u "I"), (1, u "BYTES"), (1, u "serialVersionUID")] 142

def k9c0 : Code := { maxStack := 4, maxLocals := 3, code := jdk_35_method_24_code, exceptionTable := #[], attributes := #[] }
def k9m0 : Method := { name := "valueOf", desc := "(J)Ljava/lang/Long;", sig := { parameters := [.long], returnType := some (.object "java/lang/Long") }, accessFlags := 9, code := some k9c0 }
def k9c1 : Code := { maxStack := 3, maxLocals := 3, code := jdk_35_method_26_code, exceptionTable := #[], attributes := #[] }
def k9m1 : Method := { name := "<init>", desc := "(J)V", sig := { parameters := [.long], returnType := none }, accessFlags := 1, code := some k9c1 }
/-- java/lang/Long -/
def k9 : Class := { plain "java/lang/Long" (some 5) with
  accessFlags := 49
  interfaces := #[6, 7, 8]
  cf := some (fileOf pool9 1 #[.nestMembers #[235]] #[{ accessFlags := 9, nameIndex := 85, descriptorIndex := 229, attributes := #[] }, { accessFlags := 1, nameIndex := 59, descriptorIndex := 242, attributes := #[] }] 49 271 #[363, 365, 367] #[{ accessFlags := 25, nameIndex := 369, descriptorIndex := 276, attributes := #[] }, { accessFlags := 25, nameIndex := 371, descriptorIndex := 276, attributes := #[] }, { accessFlags := 25, nameIndex := 361, descriptorIndex := 362, attributes := #[] }, { accessFlags := 18, nameIndex := 275, descriptorIndex := 276, attributes := #[] }, { accessFlags := 25, nameIndex := 376, descriptorIndex := 377, attributes := #[] }, { accessFlags := 25, nameIndex := 379, descriptorIndex := 377, attributes := #[] }, { accessFlags := 26, nameIndex := 381, descriptorIndex := 276, attributes := #[] }])
  fields := #[{ name := "MIN_VALUE", type := .long, accessFlags := 25, slot := 0, constantValue := 0 }, { name := "MAX_VALUE", type := .long, accessFlags := 25, slot := 1, constantValue := 0 }, { name := "TYPE", type := (.object "java/lang/Class"), accessFlags := 25, slot := 2, constantValue := 0 }, { name := "value", type := .long, accessFlags := 18, slot := 0, constantValue := 0 }, { name := "SIZE", type := .int, accessFlags := 25, slot := 3, constantValue := 0 }, { name := "BYTES", type := .int, accessFlags := 25, slot := 4, constantValue := 0 }, { name := "serialVersionUID", type := .long, accessFlags := 26, slot := 5, constantValue := 0 }]
  methods := #[k9m0, k9m1]
  instanceTypes := #[.long]
  staticTypes := #[.long, .long, (.object "java/lang/Class"), .int, .int, .long]
  resolved := Array.replicate 524 none
  statics := none }

def pool10 : Array CpInfo := pool [(2, .class_ 4), (1, u "java/lang/Object"), (0, u "<init>"), (0, u "()V"), (0, .class_ 8), (0, u "java/lang/Long"), (7, .class_ 18), (1, u "java/lang/Long$LongCache"), (0, u "$assertionsDisabled"), (0, u "Z"), (8, u "archivedCache"), (0, u "[Ljava/lang/Long;"), (7, u "cache")] 24

def k10m0 : Method := { name := "<init>", desc := "()V", sig := { parameters := [], returnType := none }, accessFlags := 2, code := none }
/-- java/lang/Long$LongCache -/
def k10 : Class := { plain "java/lang/Long$LongCache" (some 0) with
  accessFlags := 48
  interfaces := #[]
  cf := some (fileOf pool10 16 #[.nestHost 7] #[{ accessFlags := 2, nameIndex := 5, descriptorIndex := 6, attributes := #[] }] 48 2 #[] #[{ accessFlags := 24, nameIndex := 38, descriptorIndex := 30, attributes := #[] }, { accessFlags := 8, nameIndex := 29, descriptorIndex := 30, attributes := #[] }, { accessFlags := 4120, nameIndex := 19, descriptorIndex := 20, attributes := #[] }])
  fields := #[{ name := "cache", type := (.array (.object "java/lang/Long")), accessFlags := 24, slot := 0, constantValue := 0 }, { name := "archivedCache", type := (.array (.object "java/lang/Long")), accessFlags := 8, slot := 1, constantValue := 0 }, { name := "$assertionsDisabled", type := .boolean, accessFlags := 4120, slot := 2, constantValue := 0 }]
  methods := #[k10m0]
  instanceTypes := #[]
  staticTypes := #[(.array (.object "java/lang/Long")), (.array (.object "java/lang/Long")), .boolean]
  resolved := Array.replicate 63 none
  statics := some 0 }

def pool11 : Array CpInfo := pool [(1, u "java/lang/Cloneable"), (0, .class_ 1), (0, u "java/lang/Object"), (0, .class_ 3)] 3

/-- java/lang/Cloneable -/
def k11 : Class := { plain "java/lang/Cloneable" (some 0) with
  accessFlags := 1537
  interfaces := #[]
  cf := some (fileOf pool11 2 #[] #[] 1537 4 #[] #[])
  fields := #[]
  methods := #[]
  instanceTypes := #[]
  staticTypes := #[]
  resolved := Array.replicate 8 none
  statics := none }

/-- the primitive byte -/
def k12 : Class := { plain "byte" none with kind := .primitive 'B', accessFlags := 0x411 }
/-- [B -/
def k13 : Class := { plain "[B" (some 0) with kind := .array 12 .byte, interfaces := #[11, 4], accessFlags := 1041 }

/-- the primitive int -/
def k14 : Class := { plain "int" none with kind := .primitive 'I', accessFlags := 0x411 }
/-- [I -/
def k15 : Class := { plain "[I" (some 0) with kind := .array 14 .int, interfaces := #[11, 4], accessFlags := 1041 }

/-- [Ljava/lang/Long; -/
def k16 : Class := { plain "[Ljava/lang/Long;" (some 0) with kind := .array 9 (.object "java/lang/Long"), interfaces := #[11, 4], accessFlags := 1041 }

def heap : Heap := #[{ cls := 10, slots := #[.ref 1, .null, .int 0], vm := .statics 10 },
  { cls := 16, slots := #[.ref 2, .ref 3, .ref 4, .ref 5, .ref 6, .ref 7, .ref 8, .ref 9, .ref 10, .ref 11, .ref 12, .ref 13, .ref 14, .ref 15, .ref 16, .ref 17, .ref 18, .ref 19, .ref 20, .ref 21, .ref 22, .ref 23, .ref 24, .ref 25, .ref 26, .ref 27, .ref 28, .ref 29, .ref 30, .ref 31, .ref 32, .ref 33, .ref 34, .ref 35, .ref 36, .ref 37, .ref 38, .ref 39, .ref 40, .ref 41, .ref 42, .ref 43, .ref 44, .ref 45, .ref 46, .ref 47, .ref 48, .ref 49, .ref 50, .ref 51, .ref 52, .ref 53, .ref 54, .ref 55, .ref 56, .ref 57, .ref 58, .ref 59, .ref 60, .ref 61, .ref 62, .ref 63, .ref 64, .ref 65, .ref 66, .ref 67, .ref 68, .ref 69, .ref 70, .ref 71, .ref 72, .ref 73, .ref 74, .ref 75, .ref 76, .ref 77, .ref 78, .ref 79, .ref 80, .ref 81, .ref 82, .ref 83, .ref 84, .ref 85, .ref 86, .ref 87, .ref 88, .ref 89, .ref 90, .ref 91, .ref 92, .ref 93, .ref 94, .ref 95, .ref 96, .ref 97, .ref 98, .ref 99, .ref 100, .ref 101, .ref 102, .ref 103, .ref 104, .ref 105, .ref 106, .ref 107, .ref 108, .ref 109, .ref 110, .ref 111, .ref 112, .ref 113, .ref 114, .ref 115, .ref 116, .ref 117, .ref 118, .ref 119, .ref 120, .ref 121, .ref 122, .ref 123, .ref 124, .ref 125, .ref 126, .ref 127, .ref 128, .ref 129, .ref 130, .ref 131, .ref 132, .ref 133, .ref 134, .ref 135, .ref 136, .ref 137, .ref 138, .ref 139, .ref 140, .ref 141, .ref 142, .ref 143, .ref 144, .ref 145, .ref 146, .ref 147, .ref 148, .ref 149, .ref 150, .ref 151, .ref 152, .ref 153, .ref 154, .ref 155, .ref 156, .ref 157, .ref 158, .ref 159, .ref 160, .ref 161, .ref 162, .ref 163, .ref 164, .ref 165, .ref 166, .ref 167, .ref 168, .ref 169, .ref 170, .ref 171, .ref 172, .ref 173, .ref 174, .ref 175, .ref 176, .ref 177, .ref 178, .ref 179, .ref 180, .ref 181, .ref 182, .ref 183, .ref 184, .ref 185, .ref 186, .ref 187, .ref 188, .ref 189, .ref 190, .ref 191, .ref 192, .ref 193, .ref 194, .ref 195, .ref 196, .ref 197, .ref 198, .ref 199, .ref 200, .ref 201, .ref 202, .ref 203, .ref 204, .ref 205, .ref 206, .ref 207, .ref 208, .ref 209, .ref 210, .ref 211, .ref 212, .ref 213, .ref 214, .ref 215, .ref 216, .ref 217, .ref 218, .ref 219, .ref 220, .ref 221, .ref 222, .ref 223, .ref 224, .ref 225, .ref 226, .ref 227, .ref 228, .ref 229, .ref 230, .ref 231, .ref 232, .ref 233, .ref 234, .ref 235, .ref 236, .ref 237, .ref 238, .ref 239, .ref 240, .ref 241, .ref 242, .ref 243, .ref 244, .ref 245, .ref 246, .ref 247, .ref 248, .ref 249, .ref 250, .ref 251, .ref 252, .ref 253, .ref 254, .ref 255, .ref 256, .ref 257], vm := .none },
  { cls := 9, slots := #[.long (-128)], vm := .none },
  { cls := 9, slots := #[.long (-127)], vm := .none },
  { cls := 9, slots := #[.long (-126)], vm := .none },
  { cls := 9, slots := #[.long (-125)], vm := .none },
  { cls := 9, slots := #[.long (-124)], vm := .none },
  { cls := 9, slots := #[.long (-123)], vm := .none },
  { cls := 9, slots := #[.long (-122)], vm := .none },
  { cls := 9, slots := #[.long (-121)], vm := .none },
  { cls := 9, slots := #[.long (-120)], vm := .none },
  { cls := 9, slots := #[.long (-119)], vm := .none },
  { cls := 9, slots := #[.long (-118)], vm := .none },
  { cls := 9, slots := #[.long (-117)], vm := .none },
  { cls := 9, slots := #[.long (-116)], vm := .none },
  { cls := 9, slots := #[.long (-115)], vm := .none },
  { cls := 9, slots := #[.long (-114)], vm := .none },
  { cls := 9, slots := #[.long (-113)], vm := .none },
  { cls := 9, slots := #[.long (-112)], vm := .none },
  { cls := 9, slots := #[.long (-111)], vm := .none },
  { cls := 9, slots := #[.long (-110)], vm := .none },
  { cls := 9, slots := #[.long (-109)], vm := .none },
  { cls := 9, slots := #[.long (-108)], vm := .none },
  { cls := 9, slots := #[.long (-107)], vm := .none },
  { cls := 9, slots := #[.long (-106)], vm := .none },
  { cls := 9, slots := #[.long (-105)], vm := .none },
  { cls := 9, slots := #[.long (-104)], vm := .none },
  { cls := 9, slots := #[.long (-103)], vm := .none },
  { cls := 9, slots := #[.long (-102)], vm := .none },
  { cls := 9, slots := #[.long (-101)], vm := .none },
  { cls := 9, slots := #[.long (-100)], vm := .none },
  { cls := 9, slots := #[.long (-99)], vm := .none },
  { cls := 9, slots := #[.long (-98)], vm := .none },
  { cls := 9, slots := #[.long (-97)], vm := .none },
  { cls := 9, slots := #[.long (-96)], vm := .none },
  { cls := 9, slots := #[.long (-95)], vm := .none },
  { cls := 9, slots := #[.long (-94)], vm := .none },
  { cls := 9, slots := #[.long (-93)], vm := .none },
  { cls := 9, slots := #[.long (-92)], vm := .none },
  { cls := 9, slots := #[.long (-91)], vm := .none },
  { cls := 9, slots := #[.long (-90)], vm := .none },
  { cls := 9, slots := #[.long (-89)], vm := .none },
  { cls := 9, slots := #[.long (-88)], vm := .none },
  { cls := 9, slots := #[.long (-87)], vm := .none },
  { cls := 9, slots := #[.long (-86)], vm := .none },
  { cls := 9, slots := #[.long (-85)], vm := .none },
  { cls := 9, slots := #[.long (-84)], vm := .none },
  { cls := 9, slots := #[.long (-83)], vm := .none },
  { cls := 9, slots := #[.long (-82)], vm := .none },
  { cls := 9, slots := #[.long (-81)], vm := .none },
  { cls := 9, slots := #[.long (-80)], vm := .none },
  { cls := 9, slots := #[.long (-79)], vm := .none },
  { cls := 9, slots := #[.long (-78)], vm := .none },
  { cls := 9, slots := #[.long (-77)], vm := .none },
  { cls := 9, slots := #[.long (-76)], vm := .none },
  { cls := 9, slots := #[.long (-75)], vm := .none },
  { cls := 9, slots := #[.long (-74)], vm := .none },
  { cls := 9, slots := #[.long (-73)], vm := .none },
  { cls := 9, slots := #[.long (-72)], vm := .none },
  { cls := 9, slots := #[.long (-71)], vm := .none },
  { cls := 9, slots := #[.long (-70)], vm := .none },
  { cls := 9, slots := #[.long (-69)], vm := .none },
  { cls := 9, slots := #[.long (-68)], vm := .none },
  { cls := 9, slots := #[.long (-67)], vm := .none },
  { cls := 9, slots := #[.long (-66)], vm := .none },
  { cls := 9, slots := #[.long (-65)], vm := .none },
  { cls := 9, slots := #[.long (-64)], vm := .none },
  { cls := 9, slots := #[.long (-63)], vm := .none },
  { cls := 9, slots := #[.long (-62)], vm := .none },
  { cls := 9, slots := #[.long (-61)], vm := .none },
  { cls := 9, slots := #[.long (-60)], vm := .none },
  { cls := 9, slots := #[.long (-59)], vm := .none },
  { cls := 9, slots := #[.long (-58)], vm := .none },
  { cls := 9, slots := #[.long (-57)], vm := .none },
  { cls := 9, slots := #[.long (-56)], vm := .none },
  { cls := 9, slots := #[.long (-55)], vm := .none },
  { cls := 9, slots := #[.long (-54)], vm := .none },
  { cls := 9, slots := #[.long (-53)], vm := .none },
  { cls := 9, slots := #[.long (-52)], vm := .none },
  { cls := 9, slots := #[.long (-51)], vm := .none },
  { cls := 9, slots := #[.long (-50)], vm := .none },
  { cls := 9, slots := #[.long (-49)], vm := .none },
  { cls := 9, slots := #[.long (-48)], vm := .none },
  { cls := 9, slots := #[.long (-47)], vm := .none },
  { cls := 9, slots := #[.long (-46)], vm := .none },
  { cls := 9, slots := #[.long (-45)], vm := .none },
  { cls := 9, slots := #[.long (-44)], vm := .none },
  { cls := 9, slots := #[.long (-43)], vm := .none },
  { cls := 9, slots := #[.long (-42)], vm := .none },
  { cls := 9, slots := #[.long (-41)], vm := .none },
  { cls := 9, slots := #[.long (-40)], vm := .none },
  { cls := 9, slots := #[.long (-39)], vm := .none },
  { cls := 9, slots := #[.long (-38)], vm := .none },
  { cls := 9, slots := #[.long (-37)], vm := .none },
  { cls := 9, slots := #[.long (-36)], vm := .none },
  { cls := 9, slots := #[.long (-35)], vm := .none },
  { cls := 9, slots := #[.long (-34)], vm := .none },
  { cls := 9, slots := #[.long (-33)], vm := .none },
  { cls := 9, slots := #[.long (-32)], vm := .none },
  { cls := 9, slots := #[.long (-31)], vm := .none },
  { cls := 9, slots := #[.long (-30)], vm := .none },
  { cls := 9, slots := #[.long (-29)], vm := .none },
  { cls := 9, slots := #[.long (-28)], vm := .none },
  { cls := 9, slots := #[.long (-27)], vm := .none },
  { cls := 9, slots := #[.long (-26)], vm := .none },
  { cls := 9, slots := #[.long (-25)], vm := .none },
  { cls := 9, slots := #[.long (-24)], vm := .none },
  { cls := 9, slots := #[.long (-23)], vm := .none },
  { cls := 9, slots := #[.long (-22)], vm := .none },
  { cls := 9, slots := #[.long (-21)], vm := .none },
  { cls := 9, slots := #[.long (-20)], vm := .none },
  { cls := 9, slots := #[.long (-19)], vm := .none },
  { cls := 9, slots := #[.long (-18)], vm := .none },
  { cls := 9, slots := #[.long (-17)], vm := .none },
  { cls := 9, slots := #[.long (-16)], vm := .none },
  { cls := 9, slots := #[.long (-15)], vm := .none },
  { cls := 9, slots := #[.long (-14)], vm := .none },
  { cls := 9, slots := #[.long (-13)], vm := .none },
  { cls := 9, slots := #[.long (-12)], vm := .none },
  { cls := 9, slots := #[.long (-11)], vm := .none },
  { cls := 9, slots := #[.long (-10)], vm := .none },
  { cls := 9, slots := #[.long (-9)], vm := .none },
  { cls := 9, slots := #[.long (-8)], vm := .none },
  { cls := 9, slots := #[.long (-7)], vm := .none },
  { cls := 9, slots := #[.long (-6)], vm := .none },
  { cls := 9, slots := #[.long (-5)], vm := .none },
  { cls := 9, slots := #[.long (-4)], vm := .none },
  { cls := 9, slots := #[.long (-3)], vm := .none },
  { cls := 9, slots := #[.long (-2)], vm := .none },
  { cls := 9, slots := #[.long (-1)], vm := .none },
  { cls := 9, slots := #[.long (0)], vm := .none },
  { cls := 9, slots := #[.long (1)], vm := .none },
  { cls := 9, slots := #[.long (2)], vm := .none },
  { cls := 9, slots := #[.long (3)], vm := .none },
  { cls := 9, slots := #[.long (4)], vm := .none },
  { cls := 9, slots := #[.long (5)], vm := .none },
  { cls := 9, slots := #[.long (6)], vm := .none },
  { cls := 9, slots := #[.long (7)], vm := .none },
  { cls := 9, slots := #[.long (8)], vm := .none },
  { cls := 9, slots := #[.long (9)], vm := .none },
  { cls := 9, slots := #[.long (10)], vm := .none },
  { cls := 9, slots := #[.long (11)], vm := .none },
  { cls := 9, slots := #[.long (12)], vm := .none },
  { cls := 9, slots := #[.long (13)], vm := .none },
  { cls := 9, slots := #[.long (14)], vm := .none },
  { cls := 9, slots := #[.long (15)], vm := .none },
  { cls := 9, slots := #[.long (16)], vm := .none },
  { cls := 9, slots := #[.long (17)], vm := .none },
  { cls := 9, slots := #[.long (18)], vm := .none },
  { cls := 9, slots := #[.long (19)], vm := .none },
  { cls := 9, slots := #[.long (20)], vm := .none },
  { cls := 9, slots := #[.long (21)], vm := .none },
  { cls := 9, slots := #[.long (22)], vm := .none },
  { cls := 9, slots := #[.long (23)], vm := .none },
  { cls := 9, slots := #[.long (24)], vm := .none },
  { cls := 9, slots := #[.long (25)], vm := .none },
  { cls := 9, slots := #[.long (26)], vm := .none },
  { cls := 9, slots := #[.long (27)], vm := .none },
  { cls := 9, slots := #[.long (28)], vm := .none },
  { cls := 9, slots := #[.long (29)], vm := .none },
  { cls := 9, slots := #[.long (30)], vm := .none },
  { cls := 9, slots := #[.long (31)], vm := .none },
  { cls := 9, slots := #[.long (32)], vm := .none },
  { cls := 9, slots := #[.long (33)], vm := .none },
  { cls := 9, slots := #[.long (34)], vm := .none },
  { cls := 9, slots := #[.long (35)], vm := .none },
  { cls := 9, slots := #[.long (36)], vm := .none },
  { cls := 9, slots := #[.long (37)], vm := .none },
  { cls := 9, slots := #[.long (38)], vm := .none },
  { cls := 9, slots := #[.long (39)], vm := .none },
  { cls := 9, slots := #[.long (40)], vm := .none },
  { cls := 9, slots := #[.long (41)], vm := .none },
  { cls := 9, slots := #[.long (42)], vm := .none },
  { cls := 9, slots := #[.long (43)], vm := .none },
  { cls := 9, slots := #[.long (44)], vm := .none },
  { cls := 9, slots := #[.long (45)], vm := .none },
  { cls := 9, slots := #[.long (46)], vm := .none },
  { cls := 9, slots := #[.long (47)], vm := .none },
  { cls := 9, slots := #[.long (48)], vm := .none },
  { cls := 9, slots := #[.long (49)], vm := .none },
  { cls := 9, slots := #[.long (50)], vm := .none },
  { cls := 9, slots := #[.long (51)], vm := .none },
  { cls := 9, slots := #[.long (52)], vm := .none },
  { cls := 9, slots := #[.long (53)], vm := .none },
  { cls := 9, slots := #[.long (54)], vm := .none },
  { cls := 9, slots := #[.long (55)], vm := .none },
  { cls := 9, slots := #[.long (56)], vm := .none },
  { cls := 9, slots := #[.long (57)], vm := .none },
  { cls := 9, slots := #[.long (58)], vm := .none },
  { cls := 9, slots := #[.long (59)], vm := .none },
  { cls := 9, slots := #[.long (60)], vm := .none },
  { cls := 9, slots := #[.long (61)], vm := .none },
  { cls := 9, slots := #[.long (62)], vm := .none },
  { cls := 9, slots := #[.long (63)], vm := .none },
  { cls := 9, slots := #[.long (64)], vm := .none },
  { cls := 9, slots := #[.long (65)], vm := .none },
  { cls := 9, slots := #[.long (66)], vm := .none },
  { cls := 9, slots := #[.long (67)], vm := .none },
  { cls := 9, slots := #[.long (68)], vm := .none },
  { cls := 9, slots := #[.long (69)], vm := .none },
  { cls := 9, slots := #[.long (70)], vm := .none },
  { cls := 9, slots := #[.long (71)], vm := .none },
  { cls := 9, slots := #[.long (72)], vm := .none },
  { cls := 9, slots := #[.long (73)], vm := .none },
  { cls := 9, slots := #[.long (74)], vm := .none },
  { cls := 9, slots := #[.long (75)], vm := .none },
  { cls := 9, slots := #[.long (76)], vm := .none },
  { cls := 9, slots := #[.long (77)], vm := .none },
  { cls := 9, slots := #[.long (78)], vm := .none },
  { cls := 9, slots := #[.long (79)], vm := .none },
  { cls := 9, slots := #[.long (80)], vm := .none },
  { cls := 9, slots := #[.long (81)], vm := .none },
  { cls := 9, slots := #[.long (82)], vm := .none },
  { cls := 9, slots := #[.long (83)], vm := .none },
  { cls := 9, slots := #[.long (84)], vm := .none },
  { cls := 9, slots := #[.long (85)], vm := .none },
  { cls := 9, slots := #[.long (86)], vm := .none },
  { cls := 9, slots := #[.long (87)], vm := .none },
  { cls := 9, slots := #[.long (88)], vm := .none },
  { cls := 9, slots := #[.long (89)], vm := .none },
  { cls := 9, slots := #[.long (90)], vm := .none },
  { cls := 9, slots := #[.long (91)], vm := .none },
  { cls := 9, slots := #[.long (92)], vm := .none },
  { cls := 9, slots := #[.long (93)], vm := .none },
  { cls := 9, slots := #[.long (94)], vm := .none },
  { cls := 9, slots := #[.long (95)], vm := .none },
  { cls := 9, slots := #[.long (96)], vm := .none },
  { cls := 9, slots := #[.long (97)], vm := .none },
  { cls := 9, slots := #[.long (98)], vm := .none },
  { cls := 9, slots := #[.long (99)], vm := .none },
  { cls := 9, slots := #[.long (100)], vm := .none },
  { cls := 9, slots := #[.long (101)], vm := .none },
  { cls := 9, slots := #[.long (102)], vm := .none },
  { cls := 9, slots := #[.long (103)], vm := .none },
  { cls := 9, slots := #[.long (104)], vm := .none },
  { cls := 9, slots := #[.long (105)], vm := .none },
  { cls := 9, slots := #[.long (106)], vm := .none },
  { cls := 9, slots := #[.long (107)], vm := .none },
  { cls := 9, slots := #[.long (108)], vm := .none },
  { cls := 9, slots := #[.long (109)], vm := .none },
  { cls := 9, slots := #[.long (110)], vm := .none },
  { cls := 9, slots := #[.long (111)], vm := .none },
  { cls := 9, slots := #[.long (112)], vm := .none },
  { cls := 9, slots := #[.long (113)], vm := .none },
  { cls := 9, slots := #[.long (114)], vm := .none },
  { cls := 9, slots := #[.long (115)], vm := .none },
  { cls := 9, slots := #[.long (116)], vm := .none },
  { cls := 9, slots := #[.long (117)], vm := .none },
  { cls := 9, slots := #[.long (118)], vm := .none },
  { cls := 9, slots := #[.long (119)], vm := .none },
  { cls := 9, slots := #[.long (120)], vm := .none },
  { cls := 9, slots := #[.long (121)], vm := .none },
  { cls := 9, slots := #[.long (122)], vm := .none },
  { cls := 9, slots := #[.long (123)], vm := .none },
  { cls := 9, slots := #[.long (124)], vm := .none },
  { cls := 9, slots := #[.long (125)], vm := .none },
  { cls := 9, slots := #[.long (126)], vm := .none },
  { cls := 9, slots := #[.long (127)], vm := .none }]
def classes : Array Class := #[k0, k1, k2, k3, k4, k5, k6, k7, k8, k9, k10, k11, k12, k13, k14, k15, k16]
def interned : List (Array UInt16 × Addr) := []
def slotsUsed : Nat := 515
def theMethod : MethodId := ⟨1, 1⟩
def args0 : Array Value := #[.long 1, .long 2, .long 3, .long 4, .int 5]
def aboutOver (below : List Frame) : State where
  vm := { classes := classes, interned := interned.toArray }
  heap := heap
  slotsUsed := slotsUsed
  threads := #[{ frames := .invoking theMethod args0 :: below }]
def below0 : List Frame := [.native { method := ⟨0, 0⟩, args := #[] }]
def about1 : State := aboutOver below0
def p0 : Program := .bare "" "" ""
def e0 : Env := launch0.env 0 0 0
theorem w_frames : about1.frames = Frame.invoking theMethod args0 :: below0 := rfl
set_option maxRecDepth 65536 in
theorem w_args : argsFit about1.vm theMethod args0 = true := by decide +kernel
set_option maxRecDepth 65536 in
theorem w_heap : heapFits about1 = true := by decide +kernel
set_option maxRecDepth 65536 in
theorem w_runnable : about1.curStatus? = some .runnable := by decide +kernel
set_option maxRecDepth 65536 in
theorem w_alone : about1.alone = true := by decide +kernel
set_option maxRecDepth 65536 in
theorem w_named : about1.methodNamed? x = some theMethod := by decide +kernel
set_option maxRecDepth 65536 in
theorem w_hears : about1.hears theMethod below0 = true := by decide +kernel
set_option maxRecDepth 65536 in
theorem w_ripe : about1.ripe theMethod args0 below0 = true := by decide +kernel
theorem w_running : about1.status = .running := rfl
set_option maxRecDepth 65536 in
theorem w_room : about1.hasRoom e0.platform room_1 = true :=
  launch0.hasRoom_least _ room_1 (by decide +kernel) (by decide +kernel) (by decide +kernel) (by decide +kernel) (by decide +kernel) (by decide +kernel)
theorem allAtoms_all (ts : List Jvm.Cond) (a : Array Jvm.Value) (st : Jvm.State) : (allAtoms ts).before a st = ts.all (fun c => c.before a st) := by
  induction ts with
  | nil => rfl
  | cons c t ih =>
    show (Jvm.Cond.and c (allAtoms t)).before a st = _
    rw [Jvm.Cond.before_and, ih, List.all_cons]
def words1 : List Jvm.Cond := Jvm.Cond.code x code maxLocals ret :: tables_1
/-- a 'code' word, met by the world's own term for the bytes: nothing is compared byte by byte -/
theorem code_word {y : MethodName} {bytes : ByteArray} {mx : Nat} {rt : Option FieldType} {a : Array Value} {s : State} {m : MethodId} {meth : Method} {c : Code} (h1 : s.methodNamed? y = some m) (h2 : s.vm.method? m = some meth) (h3 : meth.code = some c) (h4 : c.code = bytes)
    (h5 : (c.maxLocals == mx && c.exceptionTable.isEmpty && decide (c.maxStack ≤ mostOperands) && decide (meth.sig.returnType = rt) && !meth.locks && decide (parseMethodDescriptor y.desc = some meth.sig)) = true) : (Jvm.Cond.code y bytes mx rt).before a s = true := by
  simp only [Bool.and_eq_true, beq_iff_eq, Bool.not_eq_true', decide_eq_true_eq] at h5
  obtain ⟨⟨⟨⟨⟨g1, g2⟩, g3⟩, g4⟩, g5⟩, g6⟩ := h5
  simp [Cond.before, Cond.holds, Cond.value, h1, h2, h3, h4, g1, g2, g3, g4, g5, g6]
def isCode : Jvm.Cond → Bool
  | .code _ _ _ _ => true
  | _ => false
theorem all_split {L : List Jvm.Cond} {P : Jvm.Cond → Bool} (h1 : L.all (fun c => isCode c || P c) = true) (h2 : ∀ c ∈ L.filter isCode, P c = true) : L.all P = true := by
  refine List.all_eq_true.mpr fun c hc => ?_
  have h := List.all_eq_true.mp h1 c hc
  rcases Bool.eq_false_or_eq_true (isCode c) with hi | hi
  · exact h2 c (List.mem_filter.mpr ⟨hc, hi⟩)
  · simpa [hi] using h
set_option maxRecDepth 65536 in
theorem w_c0 : (Jvm.Cond.code x code maxLocals ret).before args0 about1 = true := code_word (m := ⟨1, 1⟩) (meth := k1m1) (c := k1c1) (by decide +kernel) rfl rfl rfl (by decide +kernel)
set_option maxRecDepth 65536 in
theorem w_c1 : (Jvm.Cond.code ({ cls := "com/example/epsilonet/epsilonet/service/ObservationTree$Outcome", name := "<init>", desc := "(JJ)V" } : Jvm.MethodName) prog_38_method_1_code (5 : Nat) (Option.none : Option Jvm.ClassFile.FieldType)).before args0 about1 = true := code_word (m := ⟨3, 0⟩) (meth := k3m0) (c := k3c0) (by decide +kernel) rfl rfl rfl (by decide +kernel)
set_option maxRecDepth 65536 in
theorem w_c2 : (Jvm.Cond.code ({ cls := "java/lang/Record", name := "<init>", desc := "()V" } : Jvm.MethodName) jdk_30_method_1_code (1 : Nat) (Option.none : Option Jvm.ClassFile.FieldType)).before args0 about1 = true := code_word (m := ⟨2, 0⟩) (meth := k2m0) (c := k2c0) (by decide +kernel) rfl rfl rfl (by decide +kernel)
set_option maxRecDepth 65536 in
theorem w_c3 : (Jvm.Cond.code ({ cls := "java/lang/Object", name := "<init>", desc := "()V" } : Jvm.MethodName) object_method_1_code (1 : Nat) (Option.none : Option Jvm.ClassFile.FieldType)).before args0 about1 = true := code_word (m := ⟨0, 0⟩) (meth := k0m0) (c := k0c0) (by decide +kernel) rfl rfl rfl (by decide +kernel)
set_option maxRecDepth 65536 in
theorem w_c4 : (Jvm.Cond.code ({ cls := "com/example/epsilonet/epsilonet/service/ObservationTree$Outcome", name := "equals", desc := "(Ljava/lang/Object;)Z" } : Jvm.MethodName) prog_38_method_3_code (3 : Nat) (Option.some Jvm.ClassFile.FieldType.boolean)).before args0 about1 = true := code_word (m := ⟨3, 1⟩) (meth := k3m1) (c := k3c1) (by decide +kernel) rfl rfl rfl (by decide +kernel)
set_option maxRecDepth 65536 in
theorem w_c5 : (Jvm.Cond.code ({ cls := "java/lang/Long", name := "valueOf", desc := "(J)Ljava/lang/Long;" } : Jvm.MethodName) jdk_35_method_24_code (3 : Nat) (Option.some (Jvm.ClassFile.FieldType.object "java/lang/Long"))).before args0 about1 = true := code_word (m := ⟨9, 0⟩) (meth := k9m0) (c := k9c0) (by decide +kernel) rfl rfl rfl (by decide +kernel)
set_option maxRecDepth 65536 in
theorem w_c6 : (Jvm.Cond.code ({ cls := "java/lang/Long", name := "<init>", desc := "(J)V" } : Jvm.MethodName) jdk_35_method_26_code (3 : Nat) (Option.none : Option Jvm.ClassFile.FieldType)).before args0 about1 = true := code_word (m := ⟨9, 1⟩) (meth := k9m1) (c := k9c1) (by decide +kernel) rfl rfl rfl (by decide +kernel)
set_option maxRecDepth 65536 in
theorem w_c7 : (Jvm.Cond.code ({ cls := "java/lang/Number", name := "<init>", desc := "()V" } : Jvm.MethodName) jdk_18_method_1_code (1 : Nat) (Option.none : Option Jvm.ClassFile.FieldType)).before args0 about1 = true := code_word (m := ⟨5, 0⟩) (meth := k5m0) (c := k5c0) (by decide +kernel) rfl rfl rfl (by decide +kernel)
def codes1 : List Jvm.Cond := [Jvm.Cond.code x code maxLocals ret, Jvm.Cond.code ({ cls := "com/example/epsilonet/epsilonet/service/ObservationTree$Outcome", name := "<init>", desc := "(JJ)V" } : Jvm.MethodName) prog_38_method_1_code (5 : Nat) (Option.none : Option Jvm.ClassFile.FieldType), Jvm.Cond.code ({ cls := "java/lang/Record", name := "<init>", desc := "()V" } : Jvm.MethodName) jdk_30_method_1_code (1 : Nat) (Option.none : Option Jvm.ClassFile.FieldType), Jvm.Cond.code ({ cls := "java/lang/Object", name := "<init>", desc := "()V" } : Jvm.MethodName) object_method_1_code (1 : Nat) (Option.none : Option Jvm.ClassFile.FieldType), Jvm.Cond.code ({ cls := "com/example/epsilonet/epsilonet/service/ObservationTree$Outcome", name := "equals", desc := "(Ljava/lang/Object;)Z" } : Jvm.MethodName) prog_38_method_3_code (3 : Nat) (Option.some Jvm.ClassFile.FieldType.boolean), Jvm.Cond.code ({ cls := "java/lang/Long", name := "valueOf", desc := "(J)Ljava/lang/Long;" } : Jvm.MethodName) jdk_35_method_24_code (3 : Nat) (Option.some (Jvm.ClassFile.FieldType.object "java/lang/Long")), Jvm.Cond.code ({ cls := "java/lang/Long", name := "<init>", desc := "(J)V" } : Jvm.MethodName) jdk_35_method_26_code (3 : Nat) (Option.none : Option Jvm.ClassFile.FieldType), Jvm.Cond.code ({ cls := "java/lang/Number", name := "<init>", desc := "()V" } : Jvm.MethodName) jdk_18_method_1_code (1 : Nat) (Option.none : Option Jvm.ClassFile.FieldType)]
set_option maxRecDepth 65536 in
theorem codes_eq : words1.filter isCode = codes1 := rfl
theorem w_codes : ∀ c ∈ words1.filter isCode, c.before args0 about1 = true := by
  rw [codes_eq]
  intro c hc
  simp only [codes1, List.mem_cons, List.not_mem_nil, or_false] at hc
  rcases hc with rfl | rfl | rfl | rfl | rfl | rfl | rfl | rfl
  · exact w_c0
  · exact w_c1
  · exact w_c2
  · exact w_c3
  · exact w_c4
  · exact w_c5
  · exact w_c6
  · exact w_c7
set_option maxRecDepth 65536 in
theorem w_t1 : (words1.take 24).all (fun c => isCode c || c.before args0 about1) = true := by decide +kernel
set_option maxRecDepth 65536 in
theorem w_t2 : ((words1.drop 24).take 24).all (fun c => isCode c || c.before args0 about1) = true := by decide +kernel
set_option maxRecDepth 65536 in
theorem w_t3 : ((words1.drop 24).drop 24).all (fun c => isCode c || c.before args0 about1) = true := by decide +kernel
theorem w_tables : (allAtoms (Jvm.Cond.code x code maxLocals ret :: tables_1)).before args0 about1 = true := by
  rw [allAtoms_all]
  show words1.all (fun c => c.before args0 about1) = true
  refine all_split ?_ w_codes
  rw [← List.take_append_drop 24 words1, List.all_append, w_t1, ← List.take_append_drop 24 (words1.drop 24), List.all_append, w_t2, w_t3]
  rfl
set_option maxRecDepth 65536 in
theorem w_rest : rest_1_c.before args0 about1 = true := by decide +kernel
set_option maxRecDepth 65536 in
theorem w_case : (Jvm.Cond.and given_1 narrow_1).before args0 about1 = true := by decide +kernel
theorem w_applies : (headSpec (Jvm.Cond.code x code maxLocals ret :: tables_1) room_1).applies x e0.platform about1 = true :=
  (Spec.applies_iff w_frames).mpr ⟨w_running, w_runnable, w_alone, w_named, w_hears, w_ripe, w_room, w_tables⟩
theorem atStart : AtStart classFile x code maxLocals ret World_1 tables_1 room_1 Calls_1 rest_1 Pre_1 launch0 p0 e0 about1 theMethod args0 below0 :=
  ⟨lists_1, trivial, launch0.admits_env _ _ _, launch0.least_env, fairChoices_fair.cas, fairChoices_fair.clock, w_frames, w_args, w_heap, w_applies, trivial, w_rest, w_case⟩
end start1
theorem witness_1 : WitnessClaimed_1 := ⟨start1.p0, start1.e0, start1.about1, start1.theMethod, start1.args0, start1.below0, start1.atStart⟩
end Jvm.Pilot.@@N@@
