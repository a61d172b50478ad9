import JvmDerived
import JvmDerived.Pilot.@@N@@Statement
import JvmDerived.Pilot.@@N@@Code
set_option linter.unusedVariables false
set_option linter.unusedSimpArgs false
namespace Jvm.Pilot.@@N@@
open Jvm Jvm.ClassFile Sem Op Lib Jvm.Free Jvm.Stand Jvm.LawKit Jvm.RoadKit Bundle Jvm.Pilot.@@N@@.Jvm.D
def own_Go (tb : Tables) (e : Env) (below : List Frame) (P : State → Outcome → Prop) (T : State) (g : JFrame) : Prop := ∃ t o, Steps tb e below (T.setTop g) t ∧ P t o
theorem own_go {tb : Tables} {e : Env} {below : List Frame} {P : State → Outcome → Prop} {T T' : State} {g g' : JFrame} (k : ∀ target, Steps tb e below (T'.setTop g') target → Steps tb e below (T.setTop g) target) (h : own_Go tb e below P T' g') : own_Go tb e below P T g := by
  obtain ⟨t, o, a, b⟩ := h
  exact ⟨t, o, k t a, b⟩
theorem own_cast {P Q : Prop} (h : P = Q) (p : P) : Q := h ▸ p
def own_upd (f : Nat → Value) (k : Nat) (v : Value) : Nat → Value := fun i => if i = k then v else f i
/-- an array of length z at a, its element i being f i -/
def own_AV (Z : State) (h : Heap) (a : Addr) (ty : FieldType) (z : Int32) (f : Nat → Value) : Prop := ¬ z < 0 ∧ ∃ c : Cell, Arr Z h a c ty ∧ c.slots.size = z.toNatClampNeg ∧ ∀ i, i < c.slots.size → c.slots[i]? = some (f i)
section
variable {Z : State} {h h' : Heap} {a b : Addr} {ty : FieldType} {z j : Int32} {f : Nat → Value} {v w : Value} {sl k : Nat} {ws : List Addr} {cA : ClassId}
theorem own_AV.lt (F : own_AV Z h a ty z f) : a < h.size := by obtain ⟨_, c, A, -⟩ := F; exact A.lt
theorem own_AV.ext (F : own_AV Z h a ty z f) (E : Ext h h') : own_AV Z h' a ty z f := by obtain ⟨q, c, A, r⟩ := F; exact ⟨q, c, A.ext E, r⟩
theorem own_AV.other (F : own_AV Z h b ty z f) (W : Wr h h' a sl v) (q : b ≠ a) : own_AV Z h' b ty z f := by obtain ⟨q1, c, A, r⟩ := F; exact ⟨q1, c, A.other W q, r⟩
theorem own_AV.keep (F : own_AV Z h a ty z f) (K : Keep h h' ws) (q : a ∉ ws) : own_AV Z h' a ty z f := by obtain ⟨q1, c, A, r⟩ := F; exact ⟨q1, c, ⟨K.2.1 a c A.1 q, A.2⟩, r⟩
theorem own_AV.new (A : Arr Z h a (newA cA ty z) ty) (q : ¬ z < 0) : own_AV Z h a ty z (fun _ => defaultValue ty) :=
  ⟨q, _, A, sz_new _ _ _, fun i hi => by
    rw [sz_new] at hi
    simp [newA, hi]⟩
theorem own_AV.set (F : own_AV Z h a ty z f) (W : Wr h h' a j.toNatClampNeg v) (hk : j.toNatClampNeg = k) : own_AV Z h' a ty z (own_upd f k v) := by
  obtain ⟨q, c, A, s, t⟩ := F
  subst hk
  refine ⟨q, _, A.same W, by rw [sz_set]; exact s, fun i hi => ?_⟩
  rw [sz_set] at hi
  by_cases e : i = j.toNatClampNeg
  · subst e; simp [own_upd, Cell.setSlot, hi]
  · simp only [own_upd, if_neg e, Cell.setSlot]
    rw [Array.getElem?_setIfInBounds_ne (Ne.symm e)]; exact t i hi
theorem own_at {c : Cell} (t : ∀ i, i < c.slots.size → c.slots[i]? = some (f i)) (s : c.slots.size = z.toNatClampNeg) (hin : ¬ (j < 0 ∨ c.slots.size ≤ j.toNatClampNeg)) (hk : j.toNatClampNeg = k) (hv : f k = v) : c.slots[j.toNatClampNeg]? = some v := by
  rw [t _ (Nat.lt_of_not_le fun q => hin (Or.inr q)), hk, hv]
theorem own_sta_keep {C n d : String} (F : Sta Z h C n d w) (K : Keep h h' ws) (q : ∀ x ∈ ws, ∀ c : Cell, h[x]? = some c → c.vm.isStatics = false) : Sta Z h' C n d w := by
  obtain ⟨cf, i, k, f, st, cell, h1, h2, h3, h4, h5, h6, h7⟩ := F
  exact ⟨cf, i, k, f, st, cell, h1, h2, h3, h4, K.2.1 st cell h5 (fun m => by rw [q st m cell h5] at h6; cases h6), h6, h7⟩
theorem own_exa_plain {C : String} (F : Exa Z h a C) : ∀ c : Cell, h[a]? = some c → c.vm.isStatics = false := fun c hc => by
  obtain ⟨c1, k, h1, -, -, h4, -⟩ := F; cases h1.symm.trans hc; exact h4
theorem own_AV.plain (F : own_AV Z h a ty z f) : ∀ c : Cell, h[a]? = some c → c.vm.isStatics = false := fun c hc => by
  obtain ⟨_, c1, A, -⟩ := F; cases A.1.symm.trans hc; exact A.plain
end
theorem own_narb {x : Int32} (h : x = 0 ∨ x = 1) : nar .boolean x = x := by rcases h with rfl | rfl <;> rfl
theorem own_exa_ref {args : Array Value} {s : State} {t : Term} {C : String} (hx : (Jvm.Cond.exactly t C).value args s none s [] = some true) : ∃ a, t.eval args s none [] s = some (.ref a) ∧ Exa s s.heap a C := by
  obtain ⟨a', c', cell, k, e1, -⟩ := Cond.exactly_spec (Cond.before_iff.mpr hx)
  exact ⟨a', e1, Exa.start e1 hx⟩
theorem own_eq_int {args : Array Value} {s : State} {t : Term} {k : Int32} (h : (Jvm.Cond.eq t (Jvm.Term.int k)).value args s none s [] = some true) : t.eval args s none [] s = some (.int k) := by
  cases hv : t.eval args s none [] s with
  | none => simp [Cond.value, hv] at h
  | some v => cases v <;> simp [Cond.value, hv, Term.eval] at h <;> simp [h]
theorem own_fld_int {args : Array Value} {s : State} {t : Term} {C n d : String} {a : Addr} {k : Int32} (ev : t.eval args s none [] s = some (.ref a)) (h : (Jvm.Cond.eq (Jvm.Term.field t C n d) (Jvm.Term.int k)).value args s none s [] = some true) : Fld s s.heap a C n d (.int k) :=
  Fld.start ((fld_at ev).symm.trans (own_eq_int h))
theorem own_nar_c (x : Int32) : nar .char (x.toUInt32.toUInt16.toUInt32.toInt32) = x.toUInt32.toUInt16.toUInt32.toInt32 := Value.int.inj (Jvm.Free.XT.narrow_c x)
theorem own_nar_b (x : Int32) : nar .byte (x.toInt8.toInt32) = x.toInt8.toInt32 := Value.int.inj (Jvm.Free.XT.narrow_b x)
theorem own_NSroot {Z : State} {a0 : Array Value} {O K : String} {n : Nat} (w : (Jvm.Cond.noSuperclass O).before a0 Z = true) (wk : (Jvm.Cond.instantiable K n).before a0 Z = true) (hn : O ≠ K) : NS Z O K := by
  obtain ⟨c, k, h1, h2, h3, -, -⟩ := Cond.noSuperclass_spec w
  obtain ⟨t, kt, g1, -⟩ := Cond.instantiable_spec wk
  have ne := ids_ne h1 g1 hn
  refine ⟨c, t, h1, g1, fun fuel => ?_⟩
  cases fuel with
  | zero => rfl
  | succ f => simp [Vm.isSubclassAux, ne, h2, h3]
theorem own_NSno {Z : State} {a0 : Array Value} {C S K : String} {m : Nat} (w : (Jvm.Cond.superclass C S).before a0 Z = true) (wk : (Jvm.Cond.instantiable K m).before a0 Z = true) (n : NS Z C K) (hn : C ≠ K) : ∃ c t, Z.vm.findClass C = some c ∧ Z.vm.findClass K = some t ∧ Z.vm.assignable c t = false := by
  obtain ⟨c, t, h0, g0, n3⟩ := n
  obtain ⟨p, k, kp, h1, h2, h3, h4, h5, -, h7⟩ := Cond.superclass_spec h0 w
  obtain ⟨t', k', g1, g2, g5, g7, -⟩ := Cond.instantiable_spec wk
  cases g0.symm.trans g1
  have g8 : k'.isInterface = false := by
    cases hi : k'.isInterface <;> simp [hi] at g7 ⊢
  have ne := ids_ne h0 g0 hn
  refine ⟨c, t, h0, g0, ?_⟩
  show Z.vm.assignableAux (255 + 1) c t = false
  simp [Vm.assignableAux, ne, h2, g2, h5, g5, g8, Vm.isSubclass, n3]
theorem own_monoW {s t : State} {o : Outcome} {L : List Loc} {k n k' n' : Nat} (h : ReturnedEndW s o t L k n) (hk : k ≤ k') (hn : n ≤ n') : ReturnedEndW s o t L k' n' := ⟨h.1, h.2.1, h.2.2.1, h.2.2.2.mono hk hn⟩
theorem own_ldcSL {p : Program} {l : Launch} {e : Env} {R : Room} {s : State} {vm0 : Vm} {m : MethodId} {args : Array Value} {below : List Frame} {meth : Method} {c : Code} {T : State} {locs : List Loc} {cells slots : Nat} {Z : State} {a0 : Array Value} {h : Heap}
    (X : Stand p l e R (s.setVm vm0) m args below meth c T locs cells slots) (hx : p.tables.exec = Jvm.exec) (hZ : Z.Warmed39 vm0) {own text : String} {index : Nat} (hown : vm0.findClass own = some m.cls) (w : (Jvm.Cond.stringLink own index text).before a0 Z = true) (wS : ∀ a ∈ Bundle.stringAtoms, a.before a0 Z = true)
    (eT : T.heap = h) {k0 : Nat} (hS : s.Since vm0 k0) (hk : k0 ≤ h.size) {g : JFrame} (hg : g.method = m) (hd : decode c.code g.pc = .ok (.ldc index, 2)) {n : Nat} (hn : 4 * text.toList.length ≤ n) (hbig : n ≤ 536870912) (hc : cells + 2 ≤ R.cells) (hl : slots + (n + 4) ≤ R.slots) :
    ∃ (a : Addr) (T' : State) (h' : Heap) (k1 : Nat), Stand p l e R (s.setVm T'.vm) m args below meth c T' locs (cells + 2) (slots + (n + 4)) ∧ T'.heap = h' ∧ Ext h h' ∧ s.Since T'.vm k1 ∧ k1 ≤ h'.size ∧ Z.Warmed39 (s.setVm T'.vm).vm ∧ (s.setVm T'.vm).vm.findClass own = some m.cls ∧ Lit (s.setVm T'.vm) own index a ∧ (s.setVm vm0).Warmed39 T'.vm ∧
      ∀ target, Steps p.tables e below (T'.setTop { g with pc := g.pc + 2, stack := .ref a :: g.stack }) target → Steps p.tables e below (T.setTop g) target := by
  have wS' : ∀ d ∈ Bundle.stringAtoms, d.before args (s.setVm vm0) = true := fun d hd => by
    have q := wS d hd
    simp only [Bundle.stringAtoms, List.mem_cons, List.not_mem_nil, or_false] at hd
    rcases hd with rfl | rfl | rfl | rfl | rfl | rfl | rfl
    · exact mv (s := s.setVm vm0) hZ q
    · exact mv (s := s.setVm vm0) hZ q
    · exact mvA (s := s.setVm vm0) hZ q
    · exact mv (s := s.setVm vm0) hZ q
    · exact mv (s := s.setVm vm0) hZ q
    · exact mv (s := s.setVm vm0) hZ q
    · exact mv (s := s.setVm vm0) hZ q
  obtain ⟨a, T', X', hS', ⟨kk, hkk, hrr⟩, hb, -, st⟩ := X.ldcStringCold hx (own := own) hown (mvS hZ w) wS' hg hd hn hbig hc hl
  subst eT
  have hf : T'.vm.findClass own = some m.cls := by rw [hS'.1.alike.findClass]; exact hown
  exact ⟨a, T', _, _, X', rfl, ext_of hb, hS.trans hS' (Nat.le_trans hk (ext_of hb).1), Nat.le_refl _, State.Warmed39.trans (t := s.setVm vm0) hZ hS'.1, hf, by simp [Lit, State.resolvedAt?, hf, hkk, hrr], hS'.1, st⟩
theorem own_selfsel {Z s : State} {a0 args : Array Value} {y : MethodName} {n : Nat} (hZ : Z.Warmed39 s.vm) (wi : (Jvm.Cond.instantiable y.cls n).before a0 Z = true) (wm : (Jvm.Cond.instanceMethod y).before a0 Z = true) (wp : (Jvm.Cond.privateMethod y).before a0 Z = true) (hy : y.cls ≠ "java/lang/invoke/MethodHandle" ∧ y.cls ≠ "java/lang/invoke/VarHandle") : (Jvm.Cond.selects y.cls y y).before args s = true := by
  obtain ⟨c, k, h1, h2, -, h4, -⟩ := Cond.instantiable_spec (mvT (args := args) hZ wi)
  have g8 : k.isInterface = false := by
    cases hi : k.isInterface <;> simp [hi] at h4 ⊢
  exact selects_self_of_private h1 h2 g8 (Cond.privateMethod_at (mvP hZ wp (args := #[]))) (mvT hZ wm) hy
theorem own_addeq {k a b m n : Nat} (h : k = a + b) (h1 : a = m) (h2 : m + b = n) : k = n := by subst h1; exact h.trans h2
theorem own_lt {a b : Nat} (h : a < b) : a < b := h
theorem own_ne {a b : Nat} (h : a < b ∨ b < a) : a ≠ b := by omega

theorem own_pn0 : plainName "com/example/ratebook/ratebook/HttpReader" = true := by first | (simp [plainName, overriddenIn]; done) | decide +kernel
theorem own_pn1 : plainName "com/example/ratebook/ratebook/HttpReaderHeldPinLaw" = true := by first | (simp [plainName, overriddenIn]; done) | decide +kernel
theorem own_pd0 : parseMethodDescriptor "(I)V" = some ⟨[.int], none⟩ := by decide +kernel
theorem own_pd1 : parseMethodDescriptor "()J" = some ⟨[], some .long⟩ := by decide +kernel
theorem own_d1_0 : decode prog_24_method_1_code 0 = .ok (.aload_n 0, 1) := by decide +kernel
theorem own_d1_1 : decode prog_24_method_1_code 1 = .ok (.invokespecial 1, 3) := by decide +kernel
theorem own_d1_4 : decode prog_24_method_1_code 4 = .ok (.aload_n 0, 1) := by decide +kernel
theorem own_d1_5 : decode prog_24_method_1_code 5 = .ok (.getstatic 7, 3) := by decide +kernel
theorem own_d1_8 : decode prog_24_method_1_code 8 = .ok (.putfield 13, 3) := by decide +kernel
theorem own_d1_11 : decode prog_24_method_1_code 11 = .ok (.aload_n 0, 1) := by decide +kernel
theorem own_d1_12 : decode prog_24_method_1_code 12 = .ok (.sipush 256, 3) := by decide +kernel
theorem own_d1_15 : decode prog_24_method_1_code 15 = .ok (.newarray .byte, 2) := by decide +kernel
theorem own_d1_17 : decode prog_24_method_1_code 17 = .ok (.putfield 18, 3) := by decide +kernel
theorem own_d1_20 : decode prog_24_method_1_code 20 = .ok (.aload_n 0, 1) := by decide +kernel
theorem own_d1_21 : decode prog_24_method_1_code 21 = .ok (.iconst 0, 1) := by decide +kernel
theorem own_d1_22 : decode prog_24_method_1_code 22 = .ok (.newarray .byte, 2) := by decide +kernel
theorem own_d1_24 : decode prog_24_method_1_code 24 = .ok (.putfield 22, 3) := by decide +kernel
theorem own_d1_27 : decode prog_24_method_1_code 27 = .ok (.aload_n 0, 1) := by decide +kernel
theorem own_d1_28 : decode prog_24_method_1_code 28 = .ok (.iload_n 1, 1) := by decide +kernel
theorem own_d1_29 : decode prog_24_method_1_code 29 = .ok (.putfield 25, 3) := by decide +kernel
theorem own_d1_32 : decode prog_24_method_1_code 32 = .ok (.return_, 1) := by decide +kernel
theorem own_ef_own_rm1 (m : MethodId) (x0 : Addr) (x1 : Int32) : entryFrame m #[(.ref x0), (.int x1)] 2 = mkF m 0 #[.val (.ref x0), .val (.int x1)] [] := by first | (simp [entryFrame, mkF, argsToLocals, Value.category]; done) | rfl
def own_Q1 (Z : State) (a_1 : Addr) (p_2 : Int32) (ws_HEAD : Addr) (w_part_a_1 : Value) (w_text_a_1 : Value) (w_body_a_1 : Value) (w_mostBodyBytes_a_1 : Int32) (w_headBytes_a_1 : Int32) (h0 : Heap) (n0 : Nat) (v : Option Value) (h : Heap) (L : List Loc) : Prop := ∃ (x_0 : Addr) (x_1 : Addr), v = none ∧ Fr n0 L ∧ Keep h0 h [a_1] ∧ Exa Z h a_1 "com/example/ratebook/ratebook/HttpReader" ∧ Fld Z h a_1 "com/example/ratebook/ratebook/HttpReader" "part" "Lcom/example/ratebook/ratebook/HttpReader$Part;" (.ref ws_HEAD) ∧ Fld Z h a_1 "com/example/ratebook/ratebook/HttpReader" "text" "[B" (.ref x_0) ∧ Fld Z h a_1 "com/example/ratebook/ratebook/HttpReader" "body" "[B" (.ref x_1) ∧ Fld Z h a_1 "com/example/ratebook/ratebook/HttpReader" "mostBodyBytes" "I" (.int p_2) ∧ Fld Z h a_1 "com/example/ratebook/ratebook/HttpReader" "headBytes" "I" (.int w_headBytes_a_1) ∧ own_AV Z h x_0 .byte (256 : Int32) (fun _ => (.int (0 : Int32))) ∧ own_AV Z h x_1 .byte (0 : Int32) (fun _ => (.int (0 : Int32))) ∧ h0.size ≤ x_0 ∧ h0.size ≤ x_1
set_option maxRecDepth 65536 in
set_option maxHeartbeats 40000000 in
theorem own_rm1 (l : Launch) (Z : State) (a0 : Array Value) (hw : ∀ d ∈ tables_1, d.before a0 Z = true) (ws : List Jvm.Cond) (a_1 : Addr) (p_2 : Int32) (ws_HEAD : Addr) (w_part_a_1 : Value) (w_text_a_1 : Value) (w_body_a_1 : Value) (w_mostBodyBytes_a_1 : Int32) (w_headBytes_a_1 : Int32) (h0 : Heap) (n0 : Nat) (Z0 : n0 ≤ h0.size) (pr_S_com_example_ratebook_ratebook_HttpReader_Part_HEAD : Sta Z h0 "com/example/ratebook/ratebook/HttpReader$Part" "HEAD" "Lcom/example/ratebook/ratebook/HttpReader$Part;" (.ref ws_HEAD)) (pr_E_a_1 : Exa Z h0 a_1 "com/example/ratebook/ratebook/HttpReader") (pr_F_a_1_part : Fld Z h0 a_1 "com/example/ratebook/ratebook/HttpReader" "part" "Lcom/example/ratebook/ratebook/HttpReader$Part;" w_part_a_1) (pr_F_a_1_text : Fld Z h0 a_1 "com/example/ratebook/ratebook/HttpReader" "text" "[B" w_text_a_1) (pr_F_a_1_body : Fld Z h0 a_1 "com/example/ratebook/ratebook/HttpReader" "body" "[B" w_body_a_1) (pr_F_a_1_mostBodyBytes : Fld Z h0 a_1 "com/example/ratebook/ratebook/HttpReader" "mostBodyBytes" "I" (.int w_mostBodyBytes_a_1)) (pr_F_a_1_headBytes : Fld Z h0 a_1 "com/example/ratebook/ratebook/HttpReader" "headBytes" "I" (.int w_headBytes_a_1)) (gw_a_1 : n0 ≤ a_1) :
    MetFree l (⟨"com/example/ratebook/ratebook/HttpReader", "<init>", "(I)V"⟩ : MethodName) (head1 (Jvm.Cond.code (⟨"com/example/ratebook/ratebook/HttpReader", "<init>", "(I)V"⟩ : MethodName) prog_24_method_1_code 2 none :: ws) ({ frames := 1, cells := 2, slots := 256, locals := 12 } : Room)) (fun a U => a = #[(.ref a_1), (.int p_2)] ∧ Z.Warmed39 U.vm ∧ U.heap = h0) (fun _ _ _ _ _ => True) (fun _ U o U' => ∃ v L, o = .returned v ∧ own_Q1 Z a_1 p_2 ws_HEAD w_part_a_1 w_text_a_1 w_body_a_1 w_mostBodyBytes_a_1 w_headBytes_a_1 h0 n0 v U'.heap L ∧ FrameEnd U o U' L ({ frames := 1, cells := 2, slots := 256, locals := 12 } : Room).cells ({ frames := 1, cells := 2, slots := 256, locals := 12 } : Room).slots) := by
  refine MetFree.of_bodySF (plainFor_of_name own_pn0) hisR ?_
  intro p e s m args below meth c s₁ Bd hml0 hP hK
  obtain ⟨rfl, hZ, hh⟩ := hP
  have hx := Bd.exec
  have hby := Bd.bytes
  have hml : c.maxLocals = 2 := hml0
  have hown : s.vm.findClass "com/example/ratebook/ratebook/HttpReader" = some m.cls := findClass_of_methodNamed Bd.named
  have hnm := (name_of_methodNamed Bd.named Bd.method).1
  have X0 : Stand p l e ({ frames := 1, cells := 2, slots := 256, locals := 12 } : Room) s m #[(.ref a_1), (.int p_2)] below meth c s₁ [] 0 0 := Stand.of_body Bd
  have e0 : s₁.heap = h0 := by rw [← hh, Bd.state]; rfl
  have N0 := Fr.nil n0
  have z0 : n0 ≤ h0.size := Z0
  have z1 := own_lt pr_E_a_1.lt
  have z2 := own_lt pr_F_a_1_part.lt
  have z3 := own_lt pr_F_a_1_text.lt
  have z4 := own_lt pr_F_a_1_body.lt
  have z5 := own_lt pr_F_a_1_mostBodyBytes.lt
  have z6 := own_lt pr_F_a_1_headBytes.lt
  have K0 : Keep h0 h0 [a_1] := Keep.refl h0 _
  show own_Go p.tables e below (fun t o => t.status = .running ∧ Ended t below o ∧ ∃ v L, o = .returned v ∧ own_Q1 Z a_1 p_2 ws_HEAD w_part_a_1 w_text_a_1 w_body_a_1 w_mostBodyBytes_a_1 w_headBytes_a_1 h0 n0 v t.heap L ∧ FrameEnd s o t L ({ frames := 1, cells := 2, slots := 256, locals := 12 } : Room).cells ({ frames := 1, cells := 2, slots := 256, locals := 12 } : Room).slots) s₁ (entryFrame m #[(.ref a_1), (.int p_2)] 2)
  rw [own_ef_own_rm1 m a_1 p_2]
  show own_Go _ _ _ _ s₁ (mkF m 0 #[.val (.ref a_1), .val (.int p_2)] [])
  refine own_go (fun _ k => XS.aloadN X0.here hx rfl (hb hby own_d1_0) rfl rfl k) ?_
  show own_Go _ _ _ _ s₁ (mkF m 1 #[.val (.ref a_1), .val (.int p_2)] [(.ref a_1)])
  obtain ⟨T7, X7, e7, st7⟩ := initO X0 hx hZ hown (hw _ (List.mem_of_getElem? (i := 6) rfl)) (hw _ (List.mem_of_getElem? (i := 7) rfl)) (hw _ (List.mem_of_getElem? (i := 8) rfl)) e0 (g := (mkF m 1 #[.val (.ref a_1), .val (.int p_2)] [(.ref a_1)])) rfl (by rw [hml]; rfl) rfl (hb hby own_d1_1) (by decide) (W := 0) (by show 2 * 0 + _ ≤ _; exact Nat.le_of_eq rfl) (by decide)
  refine own_go (fun _ k => st7 _ k) ?_
  show own_Go _ _ _ _ T7 (mkF m 4 #[.val (.ref a_1), .val (.int p_2)] [])
  refine own_go (fun _ k => XS.aloadN X7.here hx rfl (hb hby own_d1_4) rfl rfl k) ?_
  show own_Go _ _ _ _ T7 (mkF m 5 #[.val (.ref a_1), .val (.int p_2)] [(.ref a_1)])
  obtain ⟨T8, X8, e8, st8⟩ := getS2 X7 hx hZ hown (host := "") (Or.inl (hw _ (List.mem_of_getElem? (i := 9) rfl))) Via.refl e7 pr_S_com_example_ratebook_ratebook_HttpReader_Part_HEAD (g := (mkF m 5 #[.val (.ref a_1), .val (.int p_2)] [(.ref a_1)])) rfl (hb hby own_d1_5)
  refine own_go (fun _ k => st8 _ k) ?_
  show own_Go _ _ _ _ T8 (mkF m 8 #[.val (.ref a_1), .val (.int p_2)] [(.ref ws_HEAD), (.ref a_1)])
  obtain ⟨T9, h9, X9, e9, W9, st9⟩ := putF X8 hx hZ hown (host := "") (Or.inl (hw _ (List.mem_of_getElem? (i := 12) rfl))) Via.refl e8 pr_F_a_1_part pr_E_a_1 (Or.inl (hw _ (List.mem_of_getElem? (i := 13) rfl))) (hw _ (List.mem_of_getElem? (i := 1) rfl)) (ty := (.object "com/example/ratebook/ratebook/HttpReader$Part")) (by decide) rfl rfl (g := (mkF m 8 #[.val (.ref a_1), .val (.int p_2)] [(.ref ws_HEAD), (.ref a_1)])) rfl rfl (hb hby own_d1_8)
  have z10 := W9.size
  have K9 : Keep h0 h9 [a_1] := K0.wr W9 (Or.inl (List.mem_of_getElem? (i := 0) rfl))
  have N9 := Fr.snoc X9 N0 (by omega : n0 ≤ a_1)
  have Fw9 : Fld Z h9 a_1 "com/example/ratebook/ratebook/HttpReader" "part" "Lcom/example/ratebook/ratebook/HttpReader$Part;" (.ref ws_HEAD) := Fld.same W9 pr_F_a_1_part
  refine own_go (fun _ k => st9 _ k) ?_
  show own_Go _ _ _ _ T9 (mkF m 11 #[.val (.ref a_1), .val (.int p_2)] [])
  refine own_go (fun _ k => XS.aloadN X9.here hx rfl (hb hby own_d1_11) rfl rfl k) ?_
  show own_Go _ _ _ _ T9 (mkF m 12 #[.val (.ref a_1), .val (.int p_2)] [(.ref a_1)])
  refine own_go (fun _ k => XS.sipush X9.here hx rfl (hb hby own_d1_12) k) ?_
  show own_Go _ _ _ _ T9 (mkF m 15 #[.val (.ref a_1), .val (.int p_2)] [(.int (256 : Int32)), (.ref a_1)])
  obtain ⟨T11, h11, k11, X11, e11, E11, A11, st11⟩ := newP X9 hx hZ (hw _ (List.mem_of_getElem? (i := 14) rfl)) e9 (g := (mkF m 15 #[.val (.ref a_1), .val (.int p_2)] [(.int (256 : Int32)), (.ref a_1)])) rfl (hb hby own_d1_15) rfl (by decide) (cap := 256) (by decide) (by decide) (by decide) (by decide)
  obtain ⟨b11, g11⟩ : ∃ z, z = h9.size := ⟨_, rfl⟩
  rw [← g11] at A11 st11
  have z12 := E11.1
  have lt_b11 := own_lt A11.lt
  have K11 : Keep h0 h11 [a_1] := K9.ext E11
  have V_b11 : own_AV Z h11 b11 .byte (256 : Int32) (fun _ => (.int (0 : Int32))) := own_AV.new A11 (by decide)
  refine own_go (fun _ k => st11 _ k) ?_
  show own_Go _ _ _ _ T11 (mkF m 17 #[.val (.ref a_1), .val (.int p_2)] [(.ref b11), (.ref a_1)])
  have f13 : Exa Z h11 a_1 "com/example/ratebook/ratebook/HttpReader" := ((pr_E_a_1.wr W9).ext E11)
  have f14 : Fld Z h11 a_1 "com/example/ratebook/ratebook/HttpReader" "text" "[B" w_text_a_1 := ((pr_F_a_1_text.other W9 (Or.inr (slot_ne (Or.inl (hw _ (List.mem_of_getElem? (i := 16) rfl))) (Or.inl (hw _ (List.mem_of_getElem? (i := 13) rfl))) (by decide) (t := (.array .byte)) (t' := (.object "com/example/ratebook/ratebook/HttpReader$Part")) (by decide) (by decide)))).ext E11)
  obtain ⟨T15, h15, X15, e15, W15, st15⟩ := putF X11 hx hZ hown (host := "") (Or.inl (hw _ (List.mem_of_getElem? (i := 15) rfl))) Via.refl e11 f14 f13 (Or.inl (hw _ (List.mem_of_getElem? (i := 16) rfl))) (hw _ (List.mem_of_getElem? (i := 1) rfl)) (ty := (.array .byte)) (by decide) rfl rfl (g := (mkF m 17 #[.val (.ref a_1), .val (.int p_2)] [(.ref b11), (.ref a_1)])) rfl rfl (hb hby own_d1_17)
  have z16 := W15.size
  have K15 : Keep h0 h15 [a_1] := K11.wr W15 (Or.inl (List.mem_of_getElem? (i := 0) rfl))
  have N15 := Fr.snoc X15 N9 (by omega : n0 ≤ a_1)
  have Fw15 : Fld Z h15 a_1 "com/example/ratebook/ratebook/HttpReader" "text" "[B" (.ref b11) := Fld.same W15 f14
  refine own_go (fun _ k => st15 _ k) ?_
  show own_Go _ _ _ _ T15 (mkF m 20 #[.val (.ref a_1), .val (.int p_2)] [])
  refine own_go (fun _ k => XS.aloadN X15.here hx rfl (hb hby own_d1_20) rfl rfl k) ?_
  show own_Go _ _ _ _ T15 (mkF m 21 #[.val (.ref a_1), .val (.int p_2)] [(.ref a_1)])
  refine own_go (fun _ k => XS.iconst X15.here hx rfl (hb hby own_d1_21) k) ?_
  show own_Go _ _ _ _ T15 (mkF m 22 #[.val (.ref a_1), .val (.int p_2)] [(.int (0 : Int32)), (.ref a_1)])
  obtain ⟨T17, h17, k17, X17, e17, E17, A17, st17⟩ := newP X15 hx hZ (hw _ (List.mem_of_getElem? (i := 14) rfl)) e15 (g := (mkF m 22 #[.val (.ref a_1), .val (.int p_2)] [(.int (0 : Int32)), (.ref a_1)])) rfl (hb hby own_d1_22) rfl (by decide) (cap := 0) (by decide) (by decide) (by decide) (by decide)
  obtain ⟨b17, g17⟩ : ∃ z, z = h15.size := ⟨_, rfl⟩
  rw [← g17] at A17 st17
  have z18 := E17.1
  have lt_b17 := own_lt A17.lt
  have K17 : Keep h0 h17 [a_1] := K15.ext E17
  have V_b17 : own_AV Z h17 b17 .byte (0 : Int32) (fun _ => (.int (0 : Int32))) := own_AV.new A17 (by decide)
  refine own_go (fun _ k => st17 _ k) ?_
  show own_Go _ _ _ _ T17 (mkF m 24 #[.val (.ref a_1), .val (.int p_2)] [(.ref b17), (.ref a_1)])
  have f19 : Exa Z h17 a_1 "com/example/ratebook/ratebook/HttpReader" := ((f13.wr W15).ext E17)
  have f20 : Fld Z h17 a_1 "com/example/ratebook/ratebook/HttpReader" "body" "[B" w_body_a_1 := ((((pr_F_a_1_body.other W9 (Or.inr (slot_ne (Or.inl (hw _ (List.mem_of_getElem? (i := 18) rfl))) (Or.inl (hw _ (List.mem_of_getElem? (i := 13) rfl))) (by decide) (t := (.array .byte)) (t' := (.object "com/example/ratebook/ratebook/HttpReader$Part")) (by decide) (by decide)))).ext E11).other W15 (Or.inr (slot_ne (Or.inl (hw _ (List.mem_of_getElem? (i := 18) rfl))) (Or.inl (hw _ (List.mem_of_getElem? (i := 16) rfl))) (by decide) (t := (.array .byte)) (t' := (.array .byte)) (by decide) (by decide)))).ext E17)
  obtain ⟨T21, h21, X21, e21, W21, st21⟩ := putF X17 hx hZ hown (host := "") (Or.inl (hw _ (List.mem_of_getElem? (i := 17) rfl))) Via.refl e17 f20 f19 (Or.inl (hw _ (List.mem_of_getElem? (i := 18) rfl))) (hw _ (List.mem_of_getElem? (i := 1) rfl)) (ty := (.array .byte)) (by decide) rfl rfl (g := (mkF m 24 #[.val (.ref a_1), .val (.int p_2)] [(.ref b17), (.ref a_1)])) rfl rfl (hb hby own_d1_24)
  have z22 := W21.size
  have K21 : Keep h0 h21 [a_1] := K17.wr W21 (Or.inl (List.mem_of_getElem? (i := 0) rfl))
  have N21 := Fr.snoc X21 N15 (by omega : n0 ≤ a_1)
  have Fw21 : Fld Z h21 a_1 "com/example/ratebook/ratebook/HttpReader" "body" "[B" (.ref b17) := Fld.same W21 f20
  refine own_go (fun _ k => st21 _ k) ?_
  show own_Go _ _ _ _ T21 (mkF m 27 #[.val (.ref a_1), .val (.int p_2)] [])
  refine own_go (fun _ k => XS.aloadN X21.here hx rfl (hb hby own_d1_27) rfl rfl k) ?_
  show own_Go _ _ _ _ T21 (mkF m 28 #[.val (.ref a_1), .val (.int p_2)] [(.ref a_1)])
  refine own_go (fun _ k => XS.iloadN X21.here hx rfl (hb hby own_d1_28) rfl k) ?_
  show own_Go _ _ _ _ T21 (mkF m 29 #[.val (.ref a_1), .val (.int p_2)] [(.int p_2), (.ref a_1)])
  have f23 : Exa Z h21 a_1 "com/example/ratebook/ratebook/HttpReader" := (f19.wr W21)
  have f24 : Fld Z h21 a_1 "com/example/ratebook/ratebook/HttpReader" "mostBodyBytes" "I" (.int w_mostBodyBytes_a_1) := (((((pr_F_a_1_mostBodyBytes.other W9 (Or.inr (slot_ne (Or.inr (hw _ (List.mem_of_getElem? (i := 20) rfl))) (Or.inl (hw _ (List.mem_of_getElem? (i := 13) rfl))) (by decide) (t := .int) (t' := (.object "com/example/ratebook/ratebook/HttpReader$Part")) (by decide) (by decide)))).ext E11).other W15 (Or.inr (slot_ne (Or.inr (hw _ (List.mem_of_getElem? (i := 20) rfl))) (Or.inl (hw _ (List.mem_of_getElem? (i := 16) rfl))) (by decide) (t := .int) (t' := (.array .byte)) (by decide) (by decide)))).ext E17).other W21 (Or.inr (slot_ne (Or.inr (hw _ (List.mem_of_getElem? (i := 20) rfl))) (Or.inl (hw _ (List.mem_of_getElem? (i := 18) rfl))) (by decide) (t := .int) (t' := (.array .byte)) (by decide) (by decide))))
  obtain ⟨T25, h25, X25, e25, W25, st25⟩ := putF X21 hx hZ hown (host := "") (Or.inl (hw _ (List.mem_of_getElem? (i := 19) rfl))) Via.refl e21 f24 f23 (Or.inr ⟨(hw _ (List.mem_of_getElem? (i := 20) rfl)), rfl, hnm⟩) (hw _ (List.mem_of_getElem? (i := 1) rfl)) (ty := .int) (by decide) rfl rfl (g := (mkF m 29 #[.val (.ref a_1), .val (.int p_2)] [(.int p_2), (.ref a_1)])) rfl rfl (hb hby own_d1_29)
  have z26 := W25.size
  have K25 : Keep h0 h25 [a_1] := K21.wr W25 (Or.inl (List.mem_of_getElem? (i := 0) rfl))
  have N25 := Fr.snoc X25 N21 (by omega : n0 ≤ a_1)
  have Fw25 : Fld Z h25 a_1 "com/example/ratebook/ratebook/HttpReader" "mostBodyBytes" "I" (.int p_2) := Fld.same W25 f24
  refine own_go (fun _ k => st25 _ k) ?_
  show own_Go _ _ _ _ T25 (mkF m 32 #[.val (.ref a_1), .val (.int p_2)] [])
  obtain ⟨fs, hr, hrun, hended, hW, hsame⟩ := X25.leave (v := none) (fun _ => rfl)
  refine ⟨_, _, X25.returnOut hx Bd.returns (hb hby own_d1_32) hr, hrun, hended, _, _, rfl, ?_, ⟨_, rfl⟩, hW, hsame.mono (by decide) (by decide)⟩
  show own_Q1 Z a_1 p_2 ws_HEAD w_part_a_1 w_text_a_1 w_body_a_1 w_mostBodyBytes_a_1 w_headBytes_a_1 h0 n0 _ T25.heap _
  rw [e25]
  have f28 : Exa Z h25 a_1 "com/example/ratebook/ratebook/HttpReader" := (f23.wr W25)
  have f29 : Fld Z h25 a_1 "com/example/ratebook/ratebook/HttpReader" "part" "Lcom/example/ratebook/ratebook/HttpReader$Part;" (.ref ws_HEAD) := (((((Fw9.ext E11).other W15 (Or.inr (slot_ne (Or.inl (hw _ (List.mem_of_getElem? (i := 13) rfl))) (Or.inl (hw _ (List.mem_of_getElem? (i := 16) rfl))) (by decide) (t := (.object "com/example/ratebook/ratebook/HttpReader$Part")) (t' := (.array .byte)) (by decide) (by decide)))).ext E17).other W21 (Or.inr (slot_ne (Or.inl (hw _ (List.mem_of_getElem? (i := 13) rfl))) (Or.inl (hw _ (List.mem_of_getElem? (i := 18) rfl))) (by decide) (t := (.object "com/example/ratebook/ratebook/HttpReader$Part")) (t' := (.array .byte)) (by decide) (by decide)))).other W25 (Or.inr (slot_ne (Or.inl (hw _ (List.mem_of_getElem? (i := 13) rfl))) (Or.inr (hw _ (List.mem_of_getElem? (i := 20) rfl))) (by decide) (t := (.object "com/example/ratebook/ratebook/HttpReader$Part")) (t' := .int) (by decide) (by decide))))
  have f30 : Fld Z h25 a_1 "com/example/ratebook/ratebook/HttpReader" "text" "[B" (.ref b11) := (((Fw15.ext E17).other W21 (Or.inr (slot_ne (Or.inl (hw _ (List.mem_of_getElem? (i := 16) rfl))) (Or.inl (hw _ (List.mem_of_getElem? (i := 18) rfl))) (by decide) (t := (.array .byte)) (t' := (.array .byte)) (by decide) (by decide)))).other W25 (Or.inr (slot_ne (Or.inl (hw _ (List.mem_of_getElem? (i := 16) rfl))) (Or.inr (hw _ (List.mem_of_getElem? (i := 20) rfl))) (by decide) (t := (.array .byte)) (t' := .int) (by decide) (by decide))))
  have f31 : Fld Z h25 a_1 "com/example/ratebook/ratebook/HttpReader" "body" "[B" (.ref b17) := (Fw21.other W25 (Or.inr (slot_ne (Or.inl (hw _ (List.mem_of_getElem? (i := 18) rfl))) (Or.inr (hw _ (List.mem_of_getElem? (i := 20) rfl))) (by decide) (t := (.array .byte)) (t' := .int) (by decide) (by decide))))
  have f32 : Fld Z h25 a_1 "com/example/ratebook/ratebook/HttpReader" "headBytes" "I" (.int w_headBytes_a_1) := ((((((pr_F_a_1_headBytes.other W9 (Or.inr (slot_ne (Or.inl (hw _ (List.mem_of_getElem? (i := 27) rfl))) (Or.inl (hw _ (List.mem_of_getElem? (i := 13) rfl))) (by decide) (t := .int) (t' := (.object "com/example/ratebook/ratebook/HttpReader$Part")) (by decide) (by decide)))).ext E11).other W15 (Or.inr (slot_ne (Or.inl (hw _ (List.mem_of_getElem? (i := 27) rfl))) (Or.inl (hw _ (List.mem_of_getElem? (i := 16) rfl))) (by decide) (t := .int) (t' := (.array .byte)) (by decide) (by decide)))).ext E17).other W21 (Or.inr (slot_ne (Or.inl (hw _ (List.mem_of_getElem? (i := 27) rfl))) (Or.inl (hw _ (List.mem_of_getElem? (i := 18) rfl))) (by decide) (t := .int) (t' := (.array .byte)) (by decide) (by decide)))).other W25 (Or.inr (slot_ne (Or.inl (hw _ (List.mem_of_getElem? (i := 27) rfl))) (Or.inr (hw _ (List.mem_of_getElem? (i := 20) rfl))) (by decide) (t := .int) (t' := .int) (by decide) (by decide))))
  have f33 : own_AV Z h25 b11 .byte (256 : Int32) (fun _ => (.int (0 : Int32))) := ((((V_b11.other W15 (own_ne (by omega))).ext E17).other W21 (own_ne (by omega))).other W25 (own_ne (by omega)))
  have f34 : own_AV Z h25 b17 .byte (0 : Int32) (fun _ => (.int (0 : Int32))) := ((V_b17.other W21 (own_ne (by omega))).other W25 (own_ne (by omega)))
  exact ⟨b11, b17, rfl, N25, K25, f28, f29, f30, f31, Fw25, f32, f33, f34, (by omega), (by omega)⟩
theorem own_d3_0 : decode prog_24_method_4_code 0 = .ok (.aload_n 0, 1) := by decide +kernel
theorem own_d3_1 : decode prog_24_method_4_code 1 = .ok (.getfield 18, 3) := by decide +kernel
theorem own_d3_4 : decode prog_24_method_4_code 4 = .ok (.arraylength, 1) := by decide +kernel
theorem own_d3_5 : decode prog_24_method_4_code 5 = .ok (.aload_n 0, 1) := by decide +kernel
theorem own_d3_6 : decode prog_24_method_4_code 6 = .ok (.getfield 22, 3) := by decide +kernel
theorem own_d3_9 : decode prog_24_method_4_code 9 = .ok (.arraylength, 1) := by decide +kernel
theorem own_d3_10 : decode prog_24_method_4_code 10 = .ok (.iadd, 1) := by decide +kernel
theorem own_d3_11 : decode prog_24_method_4_code 11 = .ok (.aload_n 0, 1) := by decide +kernel
theorem own_d3_12 : decode prog_24_method_4_code 12 = .ok (.getfield 81, 3) := by decide +kernel
theorem own_d3_15 : decode prog_24_method_4_code 15 = .ok (.iadd, 1) := by decide +kernel
theorem own_d3_16 : decode prog_24_method_4_code 16 = .ok (.i2l, 1) := by decide +kernel
theorem own_d3_17 : decode prog_24_method_4_code 17 = .ok (.lreturn, 1) := by decide +kernel
theorem own_ef_own_rm3 (m : MethodId) (x0 : Addr) : entryFrame m #[(.ref x0)] 1 = mkF m 0 #[.val (.ref x0)] [] := by first | (simp [entryFrame, mkF, argsToLocals, Value.category]; done) | rfl
def own_Q3 (Z : State) (a_1 : Addr) (w_text_a_1 : Addr) (z_w_text_a_1 : Int32) (g_w_text_a_1 : Nat → Value) (w_body_a_1 : Addr) (z_w_body_a_1 : Int32) (g_w_body_a_1 : Nat → Value) (w_headBytes_a_1 : Int32) (h0 : Heap) (n0 : Nat) (v : Option Value) (h : Heap) (L : List Loc) : Prop := ∃ (r_ : Int64), v = some (.long r_) ∧ Fr n0 L ∧ r_ = (((z_w_text_a_1 + z_w_body_a_1) + w_headBytes_a_1).toInt64) ∧ h = h0
set_option maxRecDepth 65536 in
set_option maxHeartbeats 40000000 in
theorem own_rm3 (l : Launch) (Z : State) (a0 : Array Value) (hw : ∀ d ∈ tables_1, d.before a0 Z = true) (ws : List Jvm.Cond) (a_1 : Addr) (w_text_a_1 : Addr) (z_w_text_a_1 : Int32) (g_w_text_a_1 : Nat → Value) (w_body_a_1 : Addr) (z_w_body_a_1 : Int32) (g_w_body_a_1 : Nat → Value) (w_headBytes_a_1 : Int32) (h0 : Heap) (n0 : Nat) (Z0 : n0 ≤ h0.size) (pr_F_a_1_text : Fld Z h0 a_1 "com/example/ratebook/ratebook/HttpReader" "text" "[B" (.ref w_text_a_1)) (pr_A_w_text_a_1 : own_AV Z h0 w_text_a_1 .byte z_w_text_a_1 g_w_text_a_1) (pr_F_a_1_body : Fld Z h0 a_1 "com/example/ratebook/ratebook/HttpReader" "body" "[B" (.ref w_body_a_1)) (pr_A_w_body_a_1 : own_AV Z h0 w_body_a_1 .byte z_w_body_a_1 g_w_body_a_1) (pr_F_a_1_headBytes : Fld Z h0 a_1 "com/example/ratebook/ratebook/HttpReader" "headBytes" "I" (.int w_headBytes_a_1)) :
    MetFree l (⟨"com/example/ratebook/ratebook/HttpReader", "held", "()J"⟩ : MethodName) (head1 (Jvm.Cond.code (⟨"com/example/ratebook/ratebook/HttpReader", "held", "()J"⟩ : MethodName) prog_24_method_4_code 1 (some .long) :: ws) ({ frames := 0, cells := 0, slots := 0, locals := 0 } : Room)) (fun a U => a = #[(.ref a_1)] ∧ Z.Warmed39 U.vm ∧ U.heap = h0) (fun _ _ _ _ _ => True) (fun _ U o U' => ∃ v L, o = .returned v ∧ own_Q3 Z a_1 w_text_a_1 z_w_text_a_1 g_w_text_a_1 w_body_a_1 z_w_body_a_1 g_w_body_a_1 w_headBytes_a_1 h0 n0 v U'.heap L ∧ FrameEnd U o U' L ({ frames := 0, cells := 0, slots := 0, locals := 0 } : Room).cells ({ frames := 0, cells := 0, slots := 0, locals := 0 } : Room).slots) := by
  refine MetFree.of_bodySF (plainFor_of_name own_pn0) hisR ?_
  intro p e s m args below meth c s₁ Bd hml0 hP hK
  obtain ⟨rfl, hZ, hh⟩ := hP
  have hx := Bd.exec
  have hby := Bd.bytes
  have hml : c.maxLocals = 1 := hml0
  have hown : s.vm.findClass "com/example/ratebook/ratebook/HttpReader" = some m.cls := findClass_of_methodNamed Bd.named
  have hnm := (name_of_methodNamed Bd.named Bd.method).1
  have X0 : Stand p l e ({ frames := 0, cells := 0, slots := 0, locals := 0 } : Room) s m #[(.ref a_1)] below meth c s₁ [] 0 0 := Stand.of_body Bd
  have e0 : s₁.heap = h0 := by rw [← hh, Bd.state]; rfl
  have N0 := Fr.nil n0
  have z0 : n0 ≤ h0.size := Z0
  have z1 := own_lt pr_F_a_1_text.lt
  have z2 := own_lt pr_A_w_text_a_1.lt
  have z3 := own_lt pr_F_a_1_body.lt
  have z4 := own_lt pr_A_w_body_a_1.lt
  have z5 := own_lt pr_F_a_1_headBytes.lt
  show own_Go p.tables e below (fun t o => t.status = .running ∧ Ended t below o ∧ ∃ v L, o = .returned v ∧ own_Q3 Z a_1 w_text_a_1 z_w_text_a_1 g_w_text_a_1 w_body_a_1 z_w_body_a_1 g_w_body_a_1 w_headBytes_a_1 h0 n0 v t.heap L ∧ FrameEnd s o t L ({ frames := 0, cells := 0, slots := 0, locals := 0 } : Room).cells ({ frames := 0, cells := 0, slots := 0, locals := 0 } : Room).slots) s₁ (entryFrame m #[(.ref a_1)] 1)
  rw [own_ef_own_rm3 m a_1]
  show own_Go _ _ _ _ s₁ (mkF m 0 #[.val (.ref a_1)] [])
  refine own_go (fun _ k => XS.aloadN X0.here hx rfl (hb hby own_d3_0) rfl rfl k) ?_
  show own_Go _ _ _ _ s₁ (mkF m 1 #[.val (.ref a_1)] [(.ref a_1)])
  obtain ⟨T6, X6, e6, st6⟩ := getF X0 hx hZ hown (host := "") (Or.inl (hw _ (List.mem_of_getElem? (i := 15) rfl))) Via.refl e0 pr_F_a_1_text (g := (mkF m 1 #[.val (.ref a_1)] [(.ref a_1)])) rfl rfl (hb hby own_d3_1)
  refine own_go (fun _ k => st6 _ k) ?_
  show own_Go _ _ _ _ T6 (mkF m 4 #[.val (.ref a_1)] [(.ref w_text_a_1)])
  obtain ⟨q7, c7, R7, s7, t7⟩ := id pr_A_w_text_a_1
  refine own_go (fun _ k => X6.arraylength hx (by rw [e6]; exact R7.1) (State.isArrayOf_alike hZ.alike R7.2.1) (g := (mkF m 4 #[.val (.ref a_1)] [(.ref w_text_a_1)])) rfl rfl (hb hby own_d3_4) _ k) ?_
  rw [len_of s7 q7]
  show own_Go _ _ _ _ T6 (mkF m 5 #[.val (.ref a_1)] [(.int z_w_text_a_1)])
  refine own_go (fun _ k => XS.aloadN X6.here hx rfl (hb hby own_d3_5) rfl rfl k) ?_
  show own_Go _ _ _ _ T6 (mkF m 6 #[.val (.ref a_1)] [(.ref a_1), (.int z_w_text_a_1)])
  obtain ⟨T8, X8, e8, st8⟩ := getF X6 hx hZ hown (host := "") (Or.inl (hw _ (List.mem_of_getElem? (i := 17) rfl))) Via.refl e6 pr_F_a_1_body (g := (mkF m 6 #[.val (.ref a_1)] [(.ref a_1), (.int z_w_text_a_1)])) rfl rfl (hb hby own_d3_6)
  refine own_go (fun _ k => st8 _ k) ?_
  show own_Go _ _ _ _ T8 (mkF m 9 #[.val (.ref a_1)] [(.ref w_body_a_1), (.int z_w_text_a_1)])
  obtain ⟨q9, c9, R9, s9, t9⟩ := id pr_A_w_body_a_1
  refine own_go (fun _ k => X8.arraylength hx (by rw [e8]; exact R9.1) (State.isArrayOf_alike hZ.alike R9.2.1) (g := (mkF m 9 #[.val (.ref a_1)] [(.ref w_body_a_1), (.int z_w_text_a_1)])) rfl rfl (hb hby own_d3_9) _ k) ?_
  rw [len_of s9 q9]
  show own_Go _ _ _ _ T8 (mkF m 10 #[.val (.ref a_1)] [(.int z_w_body_a_1), (.int z_w_text_a_1)])
  refine own_go (fun _ k => XS.iadd X8.here hx rfl (hb hby own_d3_10) rfl k) ?_
  show own_Go _ _ _ _ T8 (mkF m 11 #[.val (.ref a_1)] [(.int (z_w_text_a_1 + z_w_body_a_1))])
  refine own_go (fun _ k => XS.aloadN X8.here hx rfl (hb hby own_d3_11) rfl rfl k) ?_
  show own_Go _ _ _ _ T8 (mkF m 12 #[.val (.ref a_1)] [(.ref a_1), (.int (z_w_text_a_1 + z_w_body_a_1))])
  obtain ⟨T10, X10, e10, st10⟩ := getF X8 hx hZ hown (host := "") (Or.inl (hw _ (List.mem_of_getElem? (i := 26) rfl))) Via.refl e8 pr_F_a_1_headBytes (g := (mkF m 12 #[.val (.ref a_1)] [(.ref a_1), (.int (z_w_text_a_1 + z_w_body_a_1))])) rfl rfl (hb hby own_d3_12)
  refine own_go (fun _ k => st10 _ k) ?_
  show own_Go _ _ _ _ T10 (mkF m 15 #[.val (.ref a_1)] [(.int w_headBytes_a_1), (.int (z_w_text_a_1 + z_w_body_a_1))])
  refine own_go (fun _ k => XS.iadd X10.here hx rfl (hb hby own_d3_15) rfl k) ?_
  show own_Go _ _ _ _ T10 (mkF m 16 #[.val (.ref a_1)] [(.int ((z_w_text_a_1 + z_w_body_a_1) + w_headBytes_a_1))])
  refine own_go (fun _ k => XS.i2l X10.here hx rfl (hb hby own_d3_16) rfl k) ?_
  show own_Go _ _ _ _ T10 (mkF m 17 #[.val (.ref a_1)] [(.long (((z_w_text_a_1 + z_w_body_a_1) + w_headBytes_a_1).toInt64))])
  obtain ⟨fs, hr, hrun, hended, hW, hsame⟩ := X10.leave (v := some (.long (((z_w_text_a_1 + z_w_body_a_1) + w_headBytes_a_1).toInt64))) (fun h => by rw [Bd.returns] at h; cases h)
  refine ⟨_, _, retOut X10 hx Bd.returns rfl (Or.inr (Or.inl ⟨rfl, rfl, _, rfl⟩)) (hb hby own_d3_17) hr, hrun, hended, _, _, rfl, ?_, ⟨_, rfl⟩, hW, hsame.mono (by decide) (by decide)⟩
  show own_Q3 Z a_1 w_text_a_1 z_w_text_a_1 g_w_text_a_1 w_body_a_1 z_w_body_a_1 g_w_body_a_1 w_headBytes_a_1 h0 n0 _ T10.heap _
  rw [e10]
  exact ⟨_, rfl, N0, (by rfl), rfl⟩
theorem own_ef_own_rm0 (m : MethodId) (x0 : Int32) (x1 : Int32) : entryFrame m #[(.int x0), (.int x1)] maxLocals = mkF m 0 #[.val (.int x0), .val (.int x1), .unset, .unset, .unset, .unset, .unset, .unset, .unset, .unset] [] := by first | (simp [entryFrame, mkF, argsToLocals, Value.category, maxLocals]; done) | rfl
set_option maxRecDepth 65536 in
set_option maxHeartbeats 4000000 in
theorem own_t0_0 (r58 : Int64) (hr_r58 : r58 = ((((256 : Int32) + (0 : Int32)) + (0 : Int32)).toInt64)) : r58 = (256 : Int64) := by
  subst_vars; decide
set_option maxRecDepth 65536 in
set_option maxHeartbeats 4000000 in
theorem own_t0_1 (r58 : Int64) (r60 : Int64) (hr_r58 : r58 = ((((256 : Int32) + (0 : Int32)) + (0 : Int32)).toInt64)) (hr_r60 : r60 = ((((256 : Int32) + (0 : Int32)) + (0 : Int32)).toInt64)) (hc63 : r58 = (256 : Int64)) : r60 = r58 := by
  subst_vars; decide
set_option maxRecDepth 65536 in
set_option maxHeartbeats 4000000 in
theorem own_t0_2 (r58 : Int64) (r60 : Int64) (r62 : Int64) (hr_r58 : r58 = ((((256 : Int32) + (0 : Int32)) + (0 : Int32)).toInt64)) (hr_r60 : r60 = ((((256 : Int32) + (0 : Int32)) + (0 : Int32)).toInt64)) (hr_r62 : r62 = ((((256 : Int32) + (0 : Int32)) + (0 : Int32)).toInt64)) (hc63 : r58 = (256 : Int64)) (hc64 : r60 = r58) : r62 = r58 := by
  subst_vars; decide
def own_Q0 (Z : State) (p_1 : Int32) (p_2 : Int32) (ws_HEAD : Addr) (h0 : Heap) (n0 : Nat) (v : Option Value) (h : Heap) (L : List Loc) : Prop := v = some (.int (1 : Int32)) ∧ Fr n0 L
set_option maxRecDepth 65536 in
set_option maxHeartbeats 40000000 in
theorem own_rm0 (l : Launch) (Z : State) (a0 : Array Value) (hw : ∀ d ∈ tables_1, d.before a0 Z = true) (ws : List Jvm.Cond) (p_1 : Int32) (p_2 : Int32) (ws_HEAD : Addr) (h0 : Heap) (n0 : Nat) (Z0 : n0 ≤ h0.size) (pr_S_com_example_ratebook_ratebook_HttpReader_Part_HEAD : Sta Z h0 "com/example/ratebook/ratebook/HttpReader$Part" "HEAD" "Lcom/example/ratebook/ratebook/HttpReader$Part;" (.ref ws_HEAD)) :
    MetFree l x (head1 (Jvm.Cond.code x code maxLocals ret :: ws) room_1) (fun a U => a = #[(.int p_1), (.int p_2)] ∧ Z.Warmed39 U.vm ∧ U.heap = h0) (fun _ _ _ _ _ => True) (fun _ U o U' => ∃ v L, o = .returned v ∧ own_Q0 Z p_1 p_2 ws_HEAD h0 n0 v U'.heap L ∧ FrameEnd U o U' L 6 534) := by
  refine MetFree.of_bodySF (plainFor_of_name own_pn1) hisR ?_
  intro p e s m args below meth c s₁ Bd hml0 hP hK
  obtain ⟨rfl, hZ, hh⟩ := hP
  have hx := Bd.exec
  have hby := Bd.bytes
  have hml : c.maxLocals = 10 := hml0
  have hown : s.vm.findClass "com/example/ratebook/ratebook/HttpReaderHeldPinLaw" = some m.cls := findClass_of_methodNamed Bd.named
  have hnm := (name_of_methodNamed Bd.named Bd.method).1
  have X0 : Stand p l e room_1 s m #[(.int p_1), (.int p_2)] below meth c s₁ [] 0 0 := Stand.of_body Bd
  have e0 : s₁.heap = h0 := by rw [← hh, Bd.state]; rfl
  have N0 := Fr.nil n0
  have z0 : n0 ≤ h0.size := Z0
  show own_Go p.tables e below (fun t o => t.status = .running ∧ Ended t below o ∧ ∃ v L, o = .returned v ∧ own_Q0 Z p_1 p_2 ws_HEAD h0 n0 v t.heap L ∧ FrameEnd s o t L 6 534) s₁ (entryFrame m #[(.int p_1), (.int p_2)] maxLocals)
  rw [own_ef_own_rm0 m p_1 p_2]
  show own_Go _ _ _ _ s₁ (mkF m 0 #[.val (.int p_1), .val (.int p_2), .unset, .unset, .unset, .unset, .unset, .unset, .unset, .unset] [])
  obtain ⟨T1, h1, X1, e1, E1, A1, D1, Y1, st1⟩ := newO X0 hx hZ hown (hw _ (List.mem_of_getElem? (i := 0) rfl)) (hw _ (List.mem_of_getElem? (i := 1) rfl)) (hw _ (List.mem_of_getElem? (i := 2) rfl)) e0 (g := (mkF m 0 #[.val (.int p_1), .val (.int p_2), .unset, .unset, .unset, .unset, .unset, .unset, .unset, .unset] [])) rfl (hb hby at_0) (by decide) (by decide)
  obtain ⟨b1, g1⟩ : ∃ z, z = h0.size := ⟨_, rfl⟩
  rw [← g1] at A1 D1 Y1 st1
  have z2 := E1.1
  have lt_b1 := own_lt A1.lt
  have F_part_b1 : Fld Z h1 b1 "com/example/ratebook/ratebook/HttpReader" "part" "Lcom/example/ratebook/ratebook/HttpReader$Part;" .null := D1 (Or.inl (hw _ (List.mem_of_getElem? (i := 13) rfl))) (ty := (.object "com/example/ratebook/ratebook/HttpReader$Part")) (by decide)
  have F_text_b1 : Fld Z h1 b1 "com/example/ratebook/ratebook/HttpReader" "text" "[B" .null := D1 (Or.inl (hw _ (List.mem_of_getElem? (i := 16) rfl))) (ty := (.array .byte)) (by decide)
  have F_body_b1 : Fld Z h1 b1 "com/example/ratebook/ratebook/HttpReader" "body" "[B" .null := D1 (Or.inl (hw _ (List.mem_of_getElem? (i := 18) rfl))) (ty := (.array .byte)) (by decide)
  have F_mostBodyBytes_b1 : Fld Z h1 b1 "com/example/ratebook/ratebook/HttpReader" "mostBodyBytes" "I" (.int (0 : Int32)) := D1 (Or.inr (hw _ (List.mem_of_getElem? (i := 20) rfl))) (ty := .int) (by decide)
  have F_headBytes_b1 : Fld Z h1 b1 "com/example/ratebook/ratebook/HttpReader" "headBytes" "I" (.int (0 : Int32)) := D1 (Or.inl (hw _ (List.mem_of_getElem? (i := 27) rfl))) (ty := .int) (by decide)
  refine own_go (fun _ k => st1 _ k) ?_
  show own_Go _ _ _ _ T1 (mkF m 3 #[.val (.int p_1), .val (.int p_2), .unset, .unset, .unset, .unset, .unset, .unset, .unset, .unset] [(.ref b1)])
  refine own_go (fun _ k => XS.dup X1.here hx rfl (hb hby at_3) rfl rfl k) ?_
  show own_Go _ _ _ _ T1 (mkF m 4 #[.val (.int p_1), .val (.int p_2), .unset, .unset, .unset, .unset, .unset, .unset, .unset, .unset] [(.ref b1), (.ref b1)])
  refine own_go (fun _ k => XS.iloadN X1.here hx rfl (hb hby at_4) rfl k) ?_
  show own_Go _ _ _ _ T1 (mkF m 5 #[.val (.int p_1), .val (.int p_2), .unset, .unset, .unset, .unset, .unset, .unset, .unset, .unset] [(.int p_1), (.ref b1), (.ref b1)])
  have f3 : Sta Z h1 "com/example/ratebook/ratebook/HttpReader$Part" "HEAD" "Lcom/example/ratebook/ratebook/HttpReader$Part;" (.ref ws_HEAD) := (pr_S_com_example_ratebook_ratebook_HttpReader_Part_HEAD.ext E1)
  obtain ⟨_, _, ⟨T4, L4, k4, n4⟩, -, X4, ⟨Lc4, hQ4, l4, y4, z4⟩, st4⟩ := X1.specialBack hx (y := (⟨"com/example/ratebook/ratebook/HttpReader", "<init>", "(I)V"⟩ : MethodName)) rfl hown (mvT hZ (hw _ (List.mem_of_getElem? (i := 3) rfl))) (mvT hZ (hw _ (List.mem_of_getElem? (i := 4) rfl))) (mvT hZ (hw _ (List.mem_of_getElem? (i := 5) rfl))) (by decide) (backOf (W := 1) (own_rm1 l Z a0 hw [] b1 p_1 ws_HEAD .null .null .null (0 : Int32) (0 : Int32) h1 n0 (by omega) f3 A1 F_part_b1 F_text_b1 F_body_b1 F_mostBodyBytes_b1 F_headBytes_b1 (by omega)) hZ (hw _ (List.mem_of_getElem? (i := 5) rfl)) (hw _ (List.mem_of_getElem? (i := 2) rfl)) (by decide) (by decide)) (g := (mkF m 5 #[.val (.int p_1), .val (.int p_2), .unset, .unset, .unset, .unset, .unset, .unset, .unset, .unset] [(.int p_1), (.ref b1), (.ref b1)])) rfl (by rw [hml]; rfl) (Steps.refl _) (a := b1) (argsL := [(.int p_1)]) (rest := [(.ref b1)]) (lenOf own_pd0 rfl) rfl (by show 2 * 0 + _ ≤ _; exact Nat.le_of_eq rfl) (hb hby at_5) (fun _ _ => ⟨rfl, e1, (by decide : 1 + 2 ≤ _), (by decide : 11 + 256 ≤ _)⟩)
  dsimp only [Pt.U, Pt.locs, Pt.cells, Pt.slots] at X4 l4 y4 z4 st4 hQ4
  have y4 : k4 = 3 := y4
  have z4 : n4 = 267 := z4
  obtain ⟨x_5, x_6, rfl, N4q, K4q, f7, f8, f9, f10, f11, f12, f13, f14, f15, f16⟩ := hQ4
  have N4 : Fr n0 L4 := by rw [l4]; exact Fr.app N0 N4q
  have z17 := K4q.1
  have z18 := own_lt f7.lt
  have z19 := own_lt f8.lt
  have z20 := own_lt f9.lt
  have z21 := own_lt f10.lt
  have z22 := own_lt f11.lt
  have z23 := own_lt f12.lt
  have z24 := own_lt f13.lt
  have z25 := own_lt f14.lt
  refine own_go (fun _ k => st4.trans k) ?_
  show own_Go _ _ _ _ T4 (mkF m 8 #[.val (.int p_1), .val (.int p_2), .unset, .unset, .unset, .unset, .unset, .unset, .unset, .unset] [(.ref b1)])
  refine own_go (fun _ k => XS.astoreN X4.here hx rfl (hb hby at_8) rfl rfl (l' := #[.val (.int p_1), .val (.int p_2), .val (.ref b1), .unset, .unset, .unset, .unset, .unset, .unset, .unset]) rfl k) ?_
  show own_Go _ _ _ _ T4 (mkF m 9 #[.val (.int p_1), .val (.int p_2), .val (.ref b1), .unset, .unset, .unset, .unset, .unset, .unset, .unset] [])
  obtain ⟨T26, h26, X26, e26, E26, A26, D26, Y26, st26⟩ := newO X4 hx hZ hown (hw _ (List.mem_of_getElem? (i := 0) rfl)) (hw _ (List.mem_of_getElem? (i := 1) rfl)) (hw _ (List.mem_of_getElem? (i := 2) rfl)) rfl (g := (mkF m 9 #[.val (.int p_1), .val (.int p_2), .val (.ref b1), .unset, .unset, .unset, .unset, .unset, .unset, .unset] [])) rfl (hb hby at_9) (by rw [y4]; decide) (by rw [z4]; decide)
  obtain ⟨b26, g26⟩ : ∃ z, z = T4.heap.size := ⟨_, rfl⟩
  rw [← g26] at A26 D26 Y26 st26
  have z27 := E26.1
  have lt_b26 := own_lt A26.lt
  have F_part_b26 : Fld Z h26 b26 "com/example/ratebook/ratebook/HttpReader" "part" "Lcom/example/ratebook/ratebook/HttpReader$Part;" .null := D26 (Or.inl (hw _ (List.mem_of_getElem? (i := 13) rfl))) (ty := (.object "com/example/ratebook/ratebook/HttpReader$Part")) (by decide)
  have F_text_b26 : Fld Z h26 b26 "com/example/ratebook/ratebook/HttpReader" "text" "[B" .null := D26 (Or.inl (hw _ (List.mem_of_getElem? (i := 16) rfl))) (ty := (.array .byte)) (by decide)
  have F_body_b26 : Fld Z h26 b26 "com/example/ratebook/ratebook/HttpReader" "body" "[B" .null := D26 (Or.inl (hw _ (List.mem_of_getElem? (i := 18) rfl))) (ty := (.array .byte)) (by decide)
  have F_mostBodyBytes_b26 : Fld Z h26 b26 "com/example/ratebook/ratebook/HttpReader" "mostBodyBytes" "I" (.int (0 : Int32)) := D26 (Or.inr (hw _ (List.mem_of_getElem? (i := 20) rfl))) (ty := .int) (by decide)
  have F_headBytes_b26 : Fld Z h26 b26 "com/example/ratebook/ratebook/HttpReader" "headBytes" "I" (.int (0 : Int32)) := D26 (Or.inl (hw _ (List.mem_of_getElem? (i := 27) rfl))) (ty := .int) (by decide)
  refine own_go (fun _ k => st26 _ k) ?_
  show own_Go _ _ _ _ T26 (mkF m 12 #[.val (.int p_1), .val (.int p_2), .val (.ref b1), .unset, .unset, .unset, .unset, .unset, .unset, .unset] [(.ref b26)])
  refine own_go (fun _ k => XS.dup X26.here hx rfl (hb hby at_12) rfl rfl k) ?_
  show own_Go _ _ _ _ T26 (mkF m 13 #[.val (.int p_1), .val (.int p_2), .val (.ref b1), .unset, .unset, .unset, .unset, .unset, .unset, .unset] [(.ref b26), (.ref b26)])
  refine own_go (fun _ k => XS.iloadN X26.here hx rfl (hb hby at_13) rfl k) ?_
  show own_Go _ _ _ _ T26 (mkF m 14 #[.val (.int p_1), .val (.int p_2), .val (.ref b1), .unset, .unset, .unset, .unset, .unset, .unset, .unset] [(.int p_2), (.ref b26), (.ref b26)])
  have f28 : Sta Z h26 "com/example/ratebook/ratebook/HttpReader$Part" "HEAD" "Lcom/example/ratebook/ratebook/HttpReader$Part;" (.ref ws_HEAD) := ((own_sta_keep f3 K4q (allS (own_exa_plain A1) all0)).ext E26)
  obtain ⟨_, _, ⟨T29, L29, k29, n29⟩, -, X29, ⟨Lc29, hQ29, l29, y29, z29⟩, st29⟩ := X26.specialBack hx (y := (⟨"com/example/ratebook/ratebook/HttpReader", "<init>", "(I)V"⟩ : MethodName)) rfl hown (mvT hZ (hw _ (List.mem_of_getElem? (i := 3) rfl))) (mvT hZ (hw _ (List.mem_of_getElem? (i := 4) rfl))) (mvT hZ (hw _ (List.mem_of_getElem? (i := 5) rfl))) (by decide) (backOf (W := 1) (own_rm1 l Z a0 hw [] b26 p_2 ws_HEAD .null .null .null (0 : Int32) (0 : Int32) h26 n0 (by omega) f28 A26 F_part_b26 F_text_b26 F_body_b26 F_mostBodyBytes_b26 F_headBytes_b26 (by omega)) hZ (hw _ (List.mem_of_getElem? (i := 5) rfl)) (hw _ (List.mem_of_getElem? (i := 2) rfl)) (by decide) (by decide)) (g := (mkF m 14 #[.val (.int p_1), .val (.int p_2), .val (.ref b1), .unset, .unset, .unset, .unset, .unset, .unset, .unset] [(.int p_2), (.ref b26), (.ref b26)])) rfl (by rw [hml]; rfl) (Steps.refl _) (a := b26) (argsL := [(.int p_2)]) (rest := [(.ref b26)]) (lenOf own_pd0 rfl) rfl (by show 2 * 0 + _ ≤ _; exact Nat.le_of_eq rfl) (hb hby at_14) (fun _ _ => ⟨rfl, e26, (by show k4 + 1 + _ ≤ _; rw [y4]; decide), (by show n4 + 11 + _ ≤ _; rw [z4]; decide)⟩)
  dsimp only [Pt.U, Pt.locs, Pt.cells, Pt.slots] at X29 l29 y29 z29 st29 hQ29
  have y29 : k29 = 6 := own_addeq y29 (congrArg (fun q => q + 1) y4) rfl
  have z29 : n29 = 534 := own_addeq z29 (congrArg (fun q => q + 11) z4) rfl
  obtain ⟨x_30, x_31, rfl, N29q, K29q, f32, f33, f34, f35, f36, f37, f38, f39, f40, f41⟩ := hQ29
  have N29 : Fr n0 L29 := by rw [l29]; exact Fr.app N4 N29q
  have z42 := K29q.1
  have z43 := own_lt f32.lt
  have z44 := own_lt f33.lt
  have z45 := own_lt f34.lt
  have z46 := own_lt f35.lt
  have z47 := own_lt f36.lt
  have z48 := own_lt f37.lt
  have z49 := own_lt f38.lt
  have z50 := own_lt f39.lt
  refine own_go (fun _ k => st29.trans k) ?_
  show own_Go _ _ _ _ T29 (mkF m 17 #[.val (.int p_1), .val (.int p_2), .val (.ref b1), .unset, .unset, .unset, .unset, .unset, .unset, .unset] [(.ref b26)])
  refine own_go (fun _ k => XS.astoreN X29.here hx rfl (hb hby at_17) rfl rfl (l' := #[.val (.int p_1), .val (.int p_2), .val (.ref b1), .val (.ref b26), .unset, .unset, .unset, .unset, .unset, .unset]) rfl k) ?_
  show own_Go _ _ _ _ T29 (mkF m 18 #[.val (.int p_1), .val (.int p_2), .val (.ref b1), .val (.ref b26), .unset, .unset, .unset, .unset, .unset, .unset] [])
  refine own_go (fun _ k => XS.aloadN X29.here hx rfl (hb hby at_18) rfl rfl k) ?_
  show own_Go _ _ _ _ T29 (mkF m 19 #[.val (.int p_1), .val (.int p_2), .val (.ref b1), .val (.ref b26), .unset, .unset, .unset, .unset, .unset, .unset] [(.ref b1)])
  have f51 : Fld Z T29.heap b1 "com/example/ratebook/ratebook/HttpReader" "text" "[B" (.ref x_5) := ((f9.ext E26).keep K29q (ninS (own_ne (by omega)) nin0))
  have f52 : own_AV Z T29.heap x_5 .byte (256 : Int32) (fun _ => (.int (0 : Int32))) := ((f13.ext E26).keep K29q (ninS (own_ne (by omega)) nin0))
  have f53 : Fld Z T29.heap b1 "com/example/ratebook/ratebook/HttpReader" "body" "[B" (.ref x_6) := ((f10.ext E26).keep K29q (ninS (own_ne (by omega)) nin0))
  have f54 : own_AV Z T29.heap x_6 .byte (0 : Int32) (fun _ => (.int (0 : Int32))) := ((f14.ext E26).keep K29q (ninS (own_ne (by omega)) nin0))
  have f55 : Fld Z T29.heap b1 "com/example/ratebook/ratebook/HttpReader" "headBytes" "I" (.int (0 : Int32)) := ((f12.ext E26).keep K29q (ninS (own_ne (by omega)) nin0))
  have f57 : Exa Z T29.heap b1 "com/example/ratebook/ratebook/HttpReader" := ((f7.ext E26).keep K29q)
  obtain ⟨cq56, kq56, q56a, q56b, q56c⟩ := isOf hZ rfl f57
  obtain ⟨_, _, ⟨T56, L56, k56, n56⟩, -, X56, ⟨Lc56, hQ56, l56, y56, z56⟩, st56⟩ := X29.virtualBack hx (y := (⟨"com/example/ratebook/ratebook/HttpReader", "held", "()J"⟩ : MethodName)) (z := (⟨"com/example/ratebook/ratebook/HttpReader", "held", "()J"⟩ : MethodName)) hown (mvT hZ (hw _ (List.mem_of_getElem? (i := 21) rfl))) (mvT hZ (hw _ (List.mem_of_getElem? (i := 22) rfl))) (notFace_of_selects (args := #[]) (mvT hZ (hw _ (List.mem_of_getElem? (i := 24) rfl)))) (mvT hZ (hw _ (List.mem_of_getElem? (i := 24) rfl))) (mvT hZ (hw _ (List.mem_of_getElem? (i := 23) rfl))) (by decide) (backOf (W := 0) (own_rm3 l Z a0 hw [] b1 x_5 (256 : Int32) (fun _ => (.int (0 : Int32))) x_6 (0 : Int32) (fun _ => (.int (0 : Int32))) (0 : Int32) T29.heap n0 (by omega) f51 f52 f53 f54 f55) hZ (hw _ (List.mem_of_getElem? (i := 25) rfl)) (hw _ (List.mem_of_getElem? (i := 2) rfl)) (by decide) (by decide)) q56a q56c (g := (mkF m 19 #[.val (.int p_1), .val (.int p_2), .val (.ref b1), .val (.ref b26), .unset, .unset, .unset, .unset, .unset, .unset] [(.ref b1)])) rfl (by rw [hml]; rfl) (Steps.refl _) (argsL := []) (rest := []) (lenOf own_pd1 rfl) rfl (by show 2 * 0 + _ ≤ _; exact Nat.le_of_eq rfl) (hb hby at_19) (fun _ _ => ⟨rfl, rfl, (by show k29 + _ ≤ _; rw [y29]; decide), (by show n29 + _ ≤ _; rw [z29]; decide)⟩)
  dsimp only [Pt.U, Pt.locs, Pt.cells, Pt.slots] at X56 l56 y56 z56 st56 hQ56
  have y56 : k56 = 6 := own_addeq y56 (congrArg (fun q => q) y29) rfl
  have z56 : n56 = 534 := own_addeq z56 (congrArg (fun q => q) z29) rfl
  obtain ⟨r58, rfl, N56q, hr_r58, e56⟩ := hQ56
  have N56 : Fr n0 L56 := by rw [l56]; exact Fr.app N29 N56q
  refine own_go (fun _ k => st56.trans k) ?_
  show own_Go _ _ _ _ T56 (mkF m 22 #[.val (.int p_1), .val (.int p_2), .val (.ref b1), .val (.ref b26), .unset, .unset, .unset, .unset, .unset, .unset] [(.long r58)])
  refine own_go (fun _ k => XS.lstore X56.here hx rfl (hb hby at_22) rfl (l' := #[.val (.int p_1), .val (.int p_2), .val (.ref b1), .val (.ref b26), .val (.long r58), .second, .unset, .unset, .unset, .unset]) rfl k) ?_
  show own_Go _ _ _ _ T56 (mkF m 24 #[.val (.int p_1), .val (.int p_2), .val (.ref b1), .val (.ref b26), .val (.long r58), .second, .unset, .unset, .unset, .unset] [])
  refine own_go (fun _ k => XS.aloadN X56.here hx rfl (hb hby at_24) rfl rfl k) ?_
  show own_Go _ _ _ _ T56 (mkF m 25 #[.val (.int p_1), .val (.int p_2), .val (.ref b1), .val (.ref b26), .val (.long r58), .second, .unset, .unset, .unset, .unset] [(.ref b1)])
  obtain ⟨cq59, kq59, q59a, q59b, q59c⟩ := isOf hZ e56 f57
  obtain ⟨_, _, ⟨T59, L59, k59, n59⟩, -, X59, ⟨Lc59, hQ59, l59, y59, z59⟩, st59⟩ := X56.virtualBack hx (y := (⟨"com/example/ratebook/ratebook/HttpReader", "held", "()J"⟩ : MethodName)) (z := (⟨"com/example/ratebook/ratebook/HttpReader", "held", "()J"⟩ : MethodName)) hown (mvT hZ (hw _ (List.mem_of_getElem? (i := 21) rfl))) (mvT hZ (hw _ (List.mem_of_getElem? (i := 22) rfl))) (notFace_of_selects (args := #[]) (mvT hZ (hw _ (List.mem_of_getElem? (i := 24) rfl)))) (mvT hZ (hw _ (List.mem_of_getElem? (i := 24) rfl))) (mvT hZ (hw _ (List.mem_of_getElem? (i := 23) rfl))) (by decide) (backOf (W := 0) (own_rm3 l Z a0 hw [] b1 x_5 (256 : Int32) (fun _ => (.int (0 : Int32))) x_6 (0 : Int32) (fun _ => (.int (0 : Int32))) (0 : Int32) T29.heap n0 (by omega) f51 f52 f53 f54 f55) hZ (hw _ (List.mem_of_getElem? (i := 25) rfl)) (hw _ (List.mem_of_getElem? (i := 2) rfl)) (by decide) (by decide)) q59a q59c (g := (mkF m 25 #[.val (.int p_1), .val (.int p_2), .val (.ref b1), .val (.ref b26), .val (.long r58), .second, .unset, .unset, .unset, .unset] [(.ref b1)])) rfl (by rw [hml]; rfl) (Steps.refl _) (argsL := []) (rest := []) (lenOf own_pd1 rfl) rfl (by show 2 * 0 + _ ≤ _; exact Nat.le_of_eq rfl) (hb hby at_25) (fun _ _ => ⟨rfl, e56, (by show k56 + _ ≤ _; rw [y56]; decide), (by show n56 + _ ≤ _; rw [z56]; decide)⟩)
  dsimp only [Pt.U, Pt.locs, Pt.cells, Pt.slots] at X59 l59 y59 z59 st59 hQ59
  have y59 : k59 = 6 := own_addeq y59 (congrArg (fun q => q) y56) rfl
  have z59 : n59 = 534 := own_addeq z59 (congrArg (fun q => q) z56) rfl
  obtain ⟨r60, rfl, N59q, hr_r60, e59⟩ := hQ59
  have N59 : Fr n0 L59 := by rw [l59]; exact Fr.app N56 N59q
  refine own_go (fun _ k => st59.trans k) ?_
  show own_Go _ _ _ _ T59 (mkF m 28 #[.val (.int p_1), .val (.int p_2), .val (.ref b1), .val (.ref b26), .val (.long r58), .second, .unset, .unset, .unset, .unset] [(.long r60)])
  refine own_go (fun _ k => XS.lstore X59.here hx rfl (hb hby at_28) rfl (l' := #[.val (.int p_1), .val (.int p_2), .val (.ref b1), .val (.ref b26), .val (.long r58), .second, .val (.long r60), .second, .unset, .unset]) rfl k) ?_
  show own_Go _ _ _ _ T59 (mkF m 30 #[.val (.int p_1), .val (.int p_2), .val (.ref b1), .val (.ref b26), .val (.long r58), .second, .val (.long r60), .second, .unset, .unset] [])
  refine own_go (fun _ k => XS.aloadN X59.here hx rfl (hb hby at_30) rfl rfl k) ?_
  show own_Go _ _ _ _ T59 (mkF m 31 #[.val (.int p_1), .val (.int p_2), .val (.ref b1), .val (.ref b26), .val (.long r58), .second, .val (.long r60), .second, .unset, .unset] [(.ref b26)])
  obtain ⟨cq61, kq61, q61a, q61b, q61c⟩ := isOf hZ e59 f32
  obtain ⟨_, _, ⟨T61, L61, k61, n61⟩, -, X61, ⟨Lc61, hQ61, l61, y61, z61⟩, st61⟩ := X59.virtualBack hx (y := (⟨"com/example/ratebook/ratebook/HttpReader", "held", "()J"⟩ : MethodName)) (z := (⟨"com/example/ratebook/ratebook/HttpReader", "held", "()J"⟩ : MethodName)) hown (mvT hZ (hw _ (List.mem_of_getElem? (i := 21) rfl))) (mvT hZ (hw _ (List.mem_of_getElem? (i := 22) rfl))) (notFace_of_selects (args := #[]) (mvT hZ (hw _ (List.mem_of_getElem? (i := 24) rfl)))) (mvT hZ (hw _ (List.mem_of_getElem? (i := 24) rfl))) (mvT hZ (hw _ (List.mem_of_getElem? (i := 23) rfl))) (by decide) (backOf (W := 0) (own_rm3 l Z a0 hw [] b26 x_30 (256 : Int32) (fun _ => (.int (0 : Int32))) x_31 (0 : Int32) (fun _ => (.int (0 : Int32))) (0 : Int32) T29.heap n0 (by omega) f34 f38 f35 f39 f37) hZ (hw _ (List.mem_of_getElem? (i := 25) rfl)) (hw _ (List.mem_of_getElem? (i := 2) rfl)) (by decide) (by decide)) q61a q61c (g := (mkF m 31 #[.val (.int p_1), .val (.int p_2), .val (.ref b1), .val (.ref b26), .val (.long r58), .second, .val (.long r60), .second, .unset, .unset] [(.ref b26)])) rfl (by rw [hml]; rfl) (Steps.refl _) (argsL := []) (rest := []) (lenOf own_pd1 rfl) rfl (by show 2 * 0 + _ ≤ _; exact Nat.le_of_eq rfl) (hb hby at_31) (fun _ _ => ⟨rfl, e59, (by show k59 + _ ≤ _; rw [y59]; decide), (by show n59 + _ ≤ _; rw [z59]; decide)⟩)
  dsimp only [Pt.U, Pt.locs, Pt.cells, Pt.slots] at X61 l61 y61 z61 st61 hQ61
  have y61 : k61 = 6 := own_addeq y61 (congrArg (fun q => q) y59) rfl
  have z61 : n61 = 534 := own_addeq z61 (congrArg (fun q => q) z59) rfl
  obtain ⟨r62, rfl, N61q, hr_r62, e61⟩ := hQ61
  have N61 : Fr n0 L61 := by rw [l61]; exact Fr.app N59 N61q
  refine own_go (fun _ k => st61.trans k) ?_
  show own_Go _ _ _ _ T61 (mkF m 34 #[.val (.int p_1), .val (.int p_2), .val (.ref b1), .val (.ref b26), .val (.long r58), .second, .val (.long r60), .second, .unset, .unset] [(.long r62)])
  refine own_go (fun _ k => XS.lstore X61.here hx rfl (hb hby at_34) rfl (l' := #[.val (.int p_1), .val (.int p_2), .val (.ref b1), .val (.ref b26), .val (.long r58), .second, .val (.long r60), .second, .val (.long r62), .second]) rfl k) ?_
  show own_Go _ _ _ _ T61 (mkF m 36 #[.val (.int p_1), .val (.int p_2), .val (.ref b1), .val (.ref b26), .val (.long r58), .second, .val (.long r60), .second, .val (.long r62), .second] [])
  refine own_go (fun _ k => XS.lload X61.here hx rfl (hb hby at_36) rfl k) ?_
  show own_Go _ _ _ _ T61 (mkF m 38 #[.val (.int p_1), .val (.int p_2), .val (.ref b1), .val (.ref b26), .val (.long r58), .second, .val (.long r60), .second, .val (.long r62), .second] [(.long r58)])
  refine own_go (fun _ k => X61.ldc2Long hx hown (mvT hZ (hw _ (List.mem_of_getElem? (i := 28) rfl))) (g := (mkF m 38 #[.val (.int p_1), .val (.int p_2), .val (.ref b1), .val (.ref b26), .val (.long r58), .second, .val (.long r60), .second, .val (.long r62), .second] [(.long r58)])) rfl (hb hby at_38) _ k) ?_
  show own_Go _ _ _ _ T61 (mkF m 41 #[.val (.int p_1), .val (.int p_2), .val (.ref b1), .val (.ref b26), .val (.long r58), .second, .val (.long r60), .second, .val (.long r62), .second] [(.long (256 : Int64)), (.long r58)])
  refine own_go (fun _ k => XS.lcmp X61.here hx rfl (hb hby at_41) rfl k) ?_
  show own_Go _ _ _ _ T61 (mkF m 42 #[.val (.int p_1), .val (.int p_2), .val (.ref b1), .val (.ref b26), .val (.long r58), .second, .val (.long r60), .second, .val (.long r62), .second] [(.int (lcmpW r58 (256 : Int64)))])
  have hc63 : r58 = (256 : Int64) := own_t0_0 r58 hr_r58
  refine own_go (fun _ k => XS.ifNo X61.here hx rfl (hb hby at_42) rfl (Jvm.Free.XT.ll_ne_f hc63) k) ?_
  show own_Go _ _ _ _ T61 (mkF m 45 #[.val (.int p_1), .val (.int p_2), .val (.ref b1), .val (.ref b26), .val (.long r58), .second, .val (.long r60), .second, .val (.long r62), .second] [])
  refine own_go (fun _ k => XS.lload X61.here hx rfl (hb hby at_45) rfl k) ?_
  show own_Go _ _ _ _ T61 (mkF m 47 #[.val (.int p_1), .val (.int p_2), .val (.ref b1), .val (.ref b26), .val (.long r58), .second, .val (.long r60), .second, .val (.long r62), .second] [(.long r60)])
  refine own_go (fun _ k => XS.lload X61.here hx rfl (hb hby at_47) rfl k) ?_
  show own_Go _ _ _ _ T61 (mkF m 49 #[.val (.int p_1), .val (.int p_2), .val (.ref b1), .val (.ref b26), .val (.long r58), .second, .val (.long r60), .second, .val (.long r62), .second] [(.long r58), (.long r60)])
  refine own_go (fun _ k => XS.lcmp X61.here hx rfl (hb hby at_49) rfl k) ?_
  show own_Go _ _ _ _ T61 (mkF m 50 #[.val (.int p_1), .val (.int p_2), .val (.ref b1), .val (.ref b26), .val (.long r58), .second, .val (.long r60), .second, .val (.long r62), .second] [(.int (lcmpW r60 r58))])
  have hc64 : r60 = r58 := own_t0_1 r58 r60 hr_r58 hr_r60 hc63
  refine own_go (fun _ k => XS.ifNo X61.here hx rfl (hb hby at_50) rfl (Jvm.Free.XT.ll_ne_f hc64) k) ?_
  show own_Go _ _ _ _ T61 (mkF m 53 #[.val (.int p_1), .val (.int p_2), .val (.ref b1), .val (.ref b26), .val (.long r58), .second, .val (.long r60), .second, .val (.long r62), .second] [])
  refine own_go (fun _ k => XS.lload X61.here hx rfl (hb hby at_53) rfl k) ?_
  show own_Go _ _ _ _ T61 (mkF m 55 #[.val (.int p_1), .val (.int p_2), .val (.ref b1), .val (.ref b26), .val (.long r58), .second, .val (.long r60), .second, .val (.long r62), .second] [(.long r62)])
  refine own_go (fun _ k => XS.lload X61.here hx rfl (hb hby at_55) rfl k) ?_
  show own_Go _ _ _ _ T61 (mkF m 57 #[.val (.int p_1), .val (.int p_2), .val (.ref b1), .val (.ref b26), .val (.long r58), .second, .val (.long r60), .second, .val (.long r62), .second] [(.long r58), (.long r62)])
  refine own_go (fun _ k => XS.lcmp X61.here hx rfl (hb hby at_57) rfl k) ?_
  show own_Go _ _ _ _ T61 (mkF m 58 #[.val (.int p_1), .val (.int p_2), .val (.ref b1), .val (.ref b26), .val (.long r58), .second, .val (.long r60), .second, .val (.long r62), .second] [(.int (lcmpW r62 r58))])
  have hc65 : r62 = r58 := own_t0_2 r58 r60 r62 hr_r58 hr_r60 hr_r62 hc63 hc64
  refine own_go (fun _ k => XS.ifNo X61.here hx rfl (hb hby at_58) rfl (Jvm.Free.XT.ll_ne_f hc65) k) ?_
  show own_Go _ _ _ _ T61 (mkF m 61 #[.val (.int p_1), .val (.int p_2), .val (.ref b1), .val (.ref b26), .val (.long r58), .second, .val (.long r60), .second, .val (.long r62), .second] [])
  refine own_go (fun _ k => XS.iconst X61.here hx rfl (hb hby at_61) k) ?_
  show own_Go _ _ _ _ T61 (mkF m 62 #[.val (.int p_1), .val (.int p_2), .val (.ref b1), .val (.ref b26), .val (.long r58), .second, .val (.long r60), .second, .val (.long r62), .second] [(.int (1 : Int32))])
  refine own_go (fun _ k => XS.goto X61.here hx rfl (pc0 := 62) (pc' := 66) rfl (hb hby at_62) (by decide) (by decide) k) ?_
  show own_Go _ _ _ _ T61 (mkF m 66 #[.val (.int p_1), .val (.int p_2), .val (.ref b1), .val (.ref b26), .val (.long r58), .second, .val (.long r60), .second, .val (.long r62), .second] [(.int (1 : Int32))])
  obtain ⟨fs, hr, hrun, hended, hW, hsame⟩ := X61.leave (v := some (.int (1 : Int32))) (fun h => by rw [Bd.returns] at h; cases h)
  refine ⟨_, _, retOut X61 hx Bd.returns rfl (Or.inl ⟨rfl, Or.inr (Or.inl rfl), _, rfl⟩) (hb hby at_66) hr, hrun, hended, _, _, rfl, ?_, ⟨_, rfl⟩, hW, hsame.mono (by rw [y61]; decide) (by rw [z61]; decide)⟩
  show own_Q0 Z p_1 p_2 ws_HEAD h0 n0 _ T61.heap _
  rw [e61]
  exact ⟨rfl, N61⟩
set_option maxRecDepth 65536 in
set_option maxHeartbeats 40000000 in
theorem comes_1 {Post : Tables → Env → Array Value → State → Outcome → State → Prop} (hpost : ∀ tb e args s v u, (limb_1_1.after args s (.returned v) u = true ∧ limb_1_2.after args s (.returned v) u = true ∧ True) → FrameEnd s (.returned v) u (Jvm.fieldLocs frame_1_writes args s ++ Jvm.arrayLocs frame_1_arrays args s ++ Jvm.staticLocs frame_1_statics s) 24 1152 → Post tb e args s (.returned v) u) :
    ArmFor flags0 classFile x code maxLocals ret World_1 tables_1 room_1 Calls_1 rest_1 Pre_1 Post := by
  intro l hfl _ _ p e ha hc hk s m args below hf hA hF happ hP
  obtain ⟨hcalls, hrest, hpre⟩ := hP
  obtain ⟨-, -, -, hnamed, -, -, -, hat⟩ := (Spec.applies_iff hf).mp happ
  obtain ⟨hg, hn⟩ := and_e (Cond.before_iff.mp (show (Jvm.Cond.and given_1 narrow_1).before args s = true from hpre))
  obtain ⟨g1, g2⟩ := and_e hg
  obtain ⟨g3, g4⟩ := and_e g2
  obtain ⟨w0, w1, rfl⟩ : ∃ w0 w1 : Value, args = #[w0, w1] := by
    have hs : args.size = 2 := by simpa [Cond.value, given_1] using g1
    obtain ⟨L⟩ := args
    match L, hs with
    | [w0, w1], _ => exact ⟨w0, w1, rfl⟩
  have hw := fun d (hd : d ∈ tables_1) => atoms_spec (ws := Jvm.Cond.code x code maxLocals ret :: tables_1) hat d (List.mem_cons_of_mem _ hd)
  have hfit : Fit s := fun {y c} hc i hi => by
    obtain ⟨ha, rfl⟩ := Array.getElem?_eq_some_iff.mp hc
    have q := List.all_eq_true.mp ((Array.all_eq_true_iff_forall_mem.mp hF) _ (Array.getElem_mem ha)) i (List.mem_range.mpr hi)
    simpa [Array.getElem?_eq_getElem hi] using q
  obtain ⟨i0, ei0⟩ := is_v g3
  obtain rfl : w0 = (.int i0) := Option.some.inj ei0
  obtain ⟨i1, ei1⟩ := is_v g4
  obtain rfl : w1 = (.int i1) := Option.some.inj ei1
  obtain ⟨ws_HEAD, ew, ex0⟩ := own_exa_ref hn
  have pS := Sta.start ew (Or.inr ⟨(hw _ (List.mem_of_getElem? (i := 10) rfl)), (hw _ (List.mem_of_getElem? (i := 11) rfl))⟩)
  obtain ⟨n, o, h1, h2, h3, _, L, rfl, ⟨rfl, N⟩, hq⟩ := own_rm0 l s _ hw tables_1 i0 i1 ws_HEAD s.heap s.heap.size (Nat.le_refl _) pS p e ha hc hk s m _ below hf ((Spec.applies_iff_loose hf).mp happ).1 ⟨rfl, State.Warmed39.refl s, rfl⟩ trivial
  refine ⟨n, _, h1, h2, h3, hpost _ _ _ _ _ _ ⟨Cond.after_iff.mpr rfl, Cond.after_iff.mpr (eq_i res_at (Term.int_eval (1)) rfl), trivial⟩ ⟨hq.1, hq.2.1, (hq.2.2.sift fun y hy => Or.inr (N y hy)).mono (by decide) (by decide)⟩⟩
theorem main_1_1 : Claimed_1_1 := comes_1 fun _ _ _ _ _ _ h hF => ⟨h.1, hF⟩
theorem main_1_2 : Claimed_1_2 := comes_1 fun _ _ _ _ _ _ h hF => ⟨h.2.1, hF⟩
end Jvm.Pilot.@@N@@
namespace Jvm.Pilot.@@N@@
open Jvm Jvm.ClassFile Sem Op Lib Jvm.Free Jvm.Stand Jvm.Pilot.@@N@@.Jvm.D
/-! MADE BY PROGRAM (witnessworld.py) out of the Statement's table words and the real class files: 13 classes; the members and pool entries that the words name. The judged class is class 1, her method 1. -/
namespace start1
open Jvm.ClassFile
def u (s : String) : CpInfo := .utf8 (stringToUtf16 s)
/-- a pool by its gaps: so many unusable entries, then the entry; so many at the end -/
def gap : Nat → List CpInfo → List CpInfo
  | 0, r => r
  | n + 1, r => .unusable :: gap n r
def poolList (es : List (Nat × CpInfo)) (last : Nat) : List CpInfo := es.foldr (fun e r => gap e.1 (e.2 :: r)) (gap last [])
def pool (es : List (Nat × CpInfo)) (last : Nat) : Array CpInfo := ⟨poolList es last⟩
def fileOf (pool : Array CpInfo) (this : Nat) (attrs : Array Attribute := #[]) (ms : Array MethodInfo := #[]) (fl : Nat := 33) (sup : Nat := 0) (ifs : Array Nat := #[]) (fds : Array FieldInfo := #[]) : ClassFile where
  minorVersion := 0
  majorVersion := 65
  constantPool := pool
  accessFlags := fl
  thisClass := this
  superClass := sup
  interfaces := ifs
  fields := fds
  methods := ms
  attributes := attrs
def plain (name : String) (sup : Option ClassId) : Class where
  name := name
  kind := .ordinary
  loader := none
  accessFlags := 33
  super := sup
  interfaces := #[]
  cf := none
  fields := #[]
  methods := #[]
  instanceTypes := #[]
  staticTypes := #[]
  resolved := #[]
  callSites := []
  init := .initialized
  statics := none
  mirror := none

def pool0 : Array CpInfo := pool [(5, u "<init>"), (0, u "()V"), (1, .class_ 10), (1, u "java/lang/Object")] 113

def k0c0 : Code := { maxStack := 0, maxLocals := 1, code := object_method_1_code, exceptionTable := #[], attributes := #[] }
def k0m0 : Method := { name := "<init>", desc := "()V", sig := { parameters := [], returnType := none }, accessFlags := 1, code := some k0c0 }
/-- java/lang/Object -/
def k0 : Class := { plain "java/lang/Object" none with
  accessFlags := 33
  interfaces := #[]
  cf := some (fileOf pool0 8 #[] #[{ accessFlags := 1, nameIndex := 5, descriptorIndex := 6, attributes := #[] }] 33 0 #[] #[])
  fields := #[]
  methods := #[k0m0]
  instanceTypes := #[]
  staticTypes := #[]
  resolved := Array.replicate 124 none
  statics := none }

def pool1 : Array CpInfo := pool [(2, .class_ 4), (1, u "java/lang/Object"), (0, u "<init>"), (0, u "()V"), (0, .class_ 8), (0, u "com/example/ratebook/ratebook/HttpReader"), (0, .methodref 7 10), (0, .nameAndType 5 11), (0, u "(I)V"), (0, .methodref 7 13), (0, .nameAndType 14 15), (0, u "held"), (0, u "()J"), (0, .long 256), (1, .class_ 19), (0, u "com/example/ratebook/ratebook/HttpReaderHeldPinLaw"), (2, u "law"), (0, u "(II)Z")] 3

def k1m0 : Method := { name := "<init>", desc := "()V", sig := { parameters := [], returnType := none }, accessFlags := 1, code := none }
def k1c1 : Code := { maxStack := 4, maxLocals := 10, code := code, exceptionTable := #[], attributes := #[] }
def k1m1 : Method := { name := "law", desc := "(II)Z", sig := { parameters := [.int, .int], returnType := some .boolean }, accessFlags := 9, code := some k1c1 }
/-- com/example/ratebook/ratebook/HttpReaderHeldPinLaw -/
def k1 : Class := { plain "com/example/ratebook/ratebook/HttpReaderHeldPinLaw" (some 0) with
  accessFlags := 49
  interfaces := #[]
  cf := some (fileOf pool1 18 #[] #[{ accessFlags := 1, nameIndex := 5, descriptorIndex := 6, attributes := #[] }, { accessFlags := 9, nameIndex := 22, descriptorIndex := 23, attributes := #[] }] 49 2 #[] #[])
  fields := #[]
  methods := #[k1m0, k1m1]
  instanceTypes := #[]
  staticTypes := #[]
  resolved := Array.replicate 27 none
  statics := none }

def pool2 : Array CpInfo := pool [(1, .methodref 2 3), (0, .class_ 4), (0, .nameAndType 5 6), (0, u "java/lang/Object"), (0, u "<init>"), (0, u "()V"), (0, .fieldref 8 9), (0, .class_ 10), (0, .nameAndType 11 12), (0, u "com/example/ratebook/ratebook/HttpReader$Part"), (0, u "HEAD"), (0, u "Lcom/example/ratebook/ratebook/HttpReader$Part;"), (0, .fieldref 14 15), (0, .class_ 16), (0, .nameAndType 17 12), (0, u "com/example/ratebook/ratebook/HttpReader"), (0, u "part"), (0, .fieldref 14 19), (0, .nameAndType 20 21), (0, u "text"), (0, u "[B"), (0, .fieldref 14 23), (0, .nameAndType 24 21), (0, u "body"), (0, .fieldref 14 26), (0, .nameAndType 27 28), (0, u "mostBodyBytes"), (0, u "I"), (39, .class_ 70), (1, u "com/example/ratebook/ratebook/HttpReader$Progress"), (8, u "started"), (0, u "Z"), (0, .fieldref 14 82), (0, .nameAndType 83 28), (0, u "headBytes"), (2, u "head"), (0, u "Lcom/example/ratebook/ratebook/HttpReader$Head;"), (2, u "bodyLength"), (6, .class_ 98), (0, u "com/example/ratebook/ratebook/HttpReader$Request"), (2, u "tooLong"), (9, u "textLength"), (38, .class_ 151), (0, u "com/example/ratebook/ratebook/HttpReader$Malformed"), (24, .class_ 177), (0, u "com/example/ratebook/ratebook/HttpReader$Fields"), (50, .class_ 229), (0, u "com/example/ratebook/ratebook/HttpReader$Head"), (52, u "()J"), (2, u "left"), (0, u "J"), (147, u "MOST_HEAD_BYTES"), (2, u "MOST_CHUNK_LINE_BYTES"), (1, u "TOKEN_MARKS"), (0, u "Ljava/lang/String;"), (0, u "TARGET_MARKS"), (0, u "HEX_DIGITS"), (0, u "FIRST_BODY_BYTES"), (1, u "(I)V"), (6, u "held")] 61

def k2c0 : Code := { maxStack := 2, maxLocals := 2, code := prog_24_method_1_code, exceptionTable := #[], attributes := #[] }
def k2m0 : Method := { name := "<init>", desc := "(I)V", sig := { parameters := [.int], returnType := none }, accessFlags := 0, code := some k2c0 }
def k2c1 : Code := { maxStack := 2, maxLocals := 1, code := prog_24_method_4_code, exceptionTable := #[], attributes := #[] }
def k2m1 : Method := { name := "held", desc := "()J", sig := { parameters := [], returnType := some .long }, accessFlags := 0, code := some k2c1 }
/-- com/example/ratebook/ratebook/HttpReader -/
def k2 : Class := { plain "com/example/ratebook/ratebook/HttpReader" (some 0) with
  accessFlags := 32
  interfaces := #[]
  cf := some (fileOf pool2 14 #[.nestMembers #[176, 8, 150, 97, 228, 68]] #[{ accessFlags := 0, nameIndex := 5, descriptorIndex := 445, attributes := #[] }, { accessFlags := 0, nameIndex := 452, descriptorIndex := 282, attributes := #[] }] 32 2 #[] #[{ accessFlags := 24, nameIndex := 434, descriptorIndex := 28, attributes := #[] }, { accessFlags := 26, nameIndex := 437, descriptorIndex := 28, attributes := #[] }, { accessFlags := 26, nameIndex := 439, descriptorIndex := 440, attributes := #[] }, { accessFlags := 26, nameIndex := 441, descriptorIndex := 440, attributes := #[] }, { accessFlags := 26, nameIndex := 442, descriptorIndex := 440, attributes := #[] }, { accessFlags := 26, nameIndex := 443, descriptorIndex := 28, attributes := #[] }, { accessFlags := 18, nameIndex := 27, descriptorIndex := 28, attributes := #[] }, { accessFlags := 2, nameIndex := 17, descriptorIndex := 12, attributes := #[] }, { accessFlags := 2, nameIndex := 79, descriptorIndex := 80, attributes := #[] }, { accessFlags := 2, nameIndex := 20, descriptorIndex := 21, attributes := #[] }, { accessFlags := 2, nameIndex := 111, descriptorIndex := 28, attributes := #[] }, { accessFlags := 2, nameIndex := 86, descriptorIndex := 87, attributes := #[] }, { accessFlags := 2, nameIndex := 83, descriptorIndex := 28, attributes := #[] }, { accessFlags := 2, nameIndex := 285, descriptorIndex := 286, attributes := #[] }, { accessFlags := 2, nameIndex := 24, descriptorIndex := 21, attributes := #[] }, { accessFlags := 2, nameIndex := 90, descriptorIndex := 28, attributes := #[] }, { accessFlags := 2, nameIndex := 101, descriptorIndex := 80, attributes := #[] }])
  fields := #[{ name := "MOST_HEAD_BYTES", type := .int, accessFlags := 24, slot := 0, constantValue := 0 }, { name := "MOST_CHUNK_LINE_BYTES", type := .int, accessFlags := 26, slot := 1, constantValue := 0 }, { name := "TOKEN_MARKS", type := (.object "java/lang/String"), accessFlags := 26, slot := 2, constantValue := 0 }, { name := "TARGET_MARKS", type := (.object "java/lang/String"), accessFlags := 26, slot := 3, constantValue := 0 }, { name := "HEX_DIGITS", type := (.object "java/lang/String"), accessFlags := 26, slot := 4, constantValue := 0 }, { name := "FIRST_BODY_BYTES", type := .int, accessFlags := 26, slot := 5, constantValue := 0 }, { name := "mostBodyBytes", type := .int, accessFlags := 18, slot := 0, constantValue := 0 }, { name := "part", type := (.object "com/example/ratebook/ratebook/HttpReader$Part"), accessFlags := 2, slot := 1, constantValue := 0 }, { name := "started", type := .boolean, accessFlags := 2, slot := 2, constantValue := 0 }, { name := "text", type := (.array .byte), accessFlags := 2, slot := 3, constantValue := 0 }, { name := "textLength", type := .int, accessFlags := 2, slot := 4, constantValue := 0 }, { name := "head", type := (.object "com/example/ratebook/ratebook/HttpReader$Head"), accessFlags := 2, slot := 5, constantValue := 0 }, { name := "headBytes", type := .int, accessFlags := 2, slot := 6, constantValue := 0 }, { name := "left", type := .long, accessFlags := 2, slot := 7, constantValue := 0 }, { name := "body", type := (.array .byte), accessFlags := 2, slot := 8, constantValue := 0 }, { name := "bodyLength", type := .int, accessFlags := 2, slot := 9, constantValue := 0 }, { name := "tooLong", type := .boolean, accessFlags := 2, slot := 10, constantValue := 0 }]
  methods := #[k2m0, k2m1]
  instanceTypes := #[.int, (.object "com/example/ratebook/ratebook/HttpReader$Part"), .boolean, (.array .byte), .int, (.object "com/example/ratebook/ratebook/HttpReader$Head"), .int, .long, (.array .byte), .int, .boolean]
  staticTypes := #[.int, .int, (.object "java/lang/String"), (.object "java/lang/String"), (.object "java/lang/String"), .int]
  resolved := Array.replicate 514 none
  statics := none }

def pool3 : Array CpInfo := pool [(1, .class_ 2), (0, u "java/lang/constant/Constable"), (0, .class_ 4), (0, u "java/lang/Object")] 6

/-- java/lang/constant/Constable -/
def k3 : Class := { plain "java/lang/constant/Constable" (some 0) with
  accessFlags := 1537
  interfaces := #[]
  cf := some (fileOf pool3 1 #[] #[] 1537 3 #[] #[])
  fields := #[]
  methods := #[]
  instanceTypes := #[]
  staticTypes := #[]
  resolved := Array.replicate 11 none
  statics := none }

def pool4 : Array CpInfo := pool [(1, .class_ 2), (0, u "java/lang/Comparable"), (0, .class_ 4), (0, u "java/lang/Object")] 7

/-- java/lang/Comparable -/
def k4 : Class := { plain "java/lang/Comparable" (some 0) with
  accessFlags := 1537
  interfaces := #[]
  cf := some (fileOf pool4 1 #[] #[] 1537 3 #[] #[])
  fields := #[]
  methods := #[]
  instanceTypes := #[]
  staticTypes := #[]
  resolved := Array.replicate 12 none
  statics := none }

def pool5 : Array CpInfo := pool [(1, .class_ 2), (0, u "java/io/Serializable"), (0, .class_ 4), (0, u "java/lang/Object")] 2

/-- java/io/Serializable -/
def k5 : Class := { plain "java/io/Serializable" (some 0) with
  accessFlags := 1537
  interfaces := #[]
  cf := some (fileOf pool5 1 #[] #[] 1537 3 #[] #[])
  fields := #[]
  methods := #[]
  instanceTypes := #[]
  staticTypes := #[]
  resolved := Array.replicate 7 none
  statics := none }

def pool6 : Array CpInfo := pool [(2, .class_ 4), (1, u "java/lang/Enum"), (0, u "name"), (0, u "Ljava/lang/String;"), (2, u "ordinal"), (0, u "I"), (1, .class_ 14), (1, u "java/lang/Object"), (4, u "hash"), (86, .class_ 108), (1, u "java/lang/Enum$EnumDesc"), (2, .class_ 112), (0, u "java/lang/constant/Constable"), (0, .class_ 114), (0, u "java/lang/Comparable"), (0, .class_ 116), (0, u "java/io/Serializable")] 87

/-- java/lang/Enum -/
def k6 : Class := { plain "java/lang/Enum" (some 0) with
  accessFlags := 1057
  interfaces := #[3, 4, 5]
  cf := some (fileOf pool6 2 #[.nestMembers #[106]] #[] 1057 12 #[111, 113, 115] #[{ accessFlags := 18, nameIndex := 5, descriptorIndex := 6, attributes := #[] }, { accessFlags := 18, nameIndex := 9, descriptorIndex := 10, attributes := #[] }, { accessFlags := 2, nameIndex := 19, descriptorIndex := 10, attributes := #[] }])
  fields := #[{ name := "name", type := (.object "java/lang/String"), accessFlags := 18, slot := 0, constantValue := 0 }, { name := "ordinal", type := .int, accessFlags := 18, slot := 1, constantValue := 0 }, { name := "hash", type := .int, accessFlags := 2, slot := 2, constantValue := 0 }]
  methods := #[]
  instanceTypes := #[(.object "java/lang/String"), .int, .int]
  staticTypes := #[]
  resolved := Array.replicate 204 none
  statics := none }

def pool7 : Array CpInfo := pool [(1, .class_ 2), (0, u "com/example/ratebook/ratebook/HttpReader$Part"), (2, u "HEAD"), (0, u "Lcom/example/ratebook/ratebook/HttpReader$Part;"), (2, u "LENGTH"), (2, u "CHUNK_LINE"), (2, u "CHUNK"), (2, u "CHUNK_END"), (2, u "TRAILER"), (2, u "DONE"), (2, u "$VALUES"), (0, u "[Lcom/example/ratebook/ratebook/HttpReader$Part;"), (6, .class_ 37), (1, u "java/lang/Enum"), (30, .class_ 69), (0, u "com/example/ratebook/ratebook/HttpReader")] 2

/-- com/example/ratebook/ratebook/HttpReader$Part -/
def k7 : Class := { plain "com/example/ratebook/ratebook/HttpReader$Part" (some 6) with
  accessFlags := 16432
  interfaces := #[]
  cf := some (fileOf pool7 1 #[.nestHost 68] #[] 16432 35 #[] #[{ accessFlags := 16409, nameIndex := 5, descriptorIndex := 6, attributes := #[] }, { accessFlags := 16409, nameIndex := 9, descriptorIndex := 6, attributes := #[] }, { accessFlags := 16409, nameIndex := 12, descriptorIndex := 6, attributes := #[] }, { accessFlags := 16409, nameIndex := 15, descriptorIndex := 6, attributes := #[] }, { accessFlags := 16409, nameIndex := 18, descriptorIndex := 6, attributes := #[] }, { accessFlags := 16409, nameIndex := 21, descriptorIndex := 6, attributes := #[] }, { accessFlags := 16409, nameIndex := 24, descriptorIndex := 6, attributes := #[] }, { accessFlags := 4122, nameIndex := 27, descriptorIndex := 28, attributes := #[] }])
  fields := #[{ name := "HEAD", type := (.object "com/example/ratebook/ratebook/HttpReader$Part"), accessFlags := 16409, slot := 0, constantValue := 0 }, { name := "LENGTH", type := (.object "com/example/ratebook/ratebook/HttpReader$Part"), accessFlags := 16409, slot := 1, constantValue := 0 }, { name := "CHUNK_LINE", type := (.object "com/example/ratebook/ratebook/HttpReader$Part"), accessFlags := 16409, slot := 2, constantValue := 0 }, { name := "CHUNK", type := (.object "com/example/ratebook/ratebook/HttpReader$Part"), accessFlags := 16409, slot := 3, constantValue := 0 }, { name := "CHUNK_END", type := (.object "com/example/ratebook/ratebook/HttpReader$Part"), accessFlags := 16409, slot := 4, constantValue := 0 }, { name := "TRAILER", type := (.object "com/example/ratebook/ratebook/HttpReader$Part"), accessFlags := 16409, slot := 5, constantValue := 0 }, { name := "DONE", type := (.object "com/example/ratebook/ratebook/HttpReader$Part"), accessFlags := 16409, slot := 6, constantValue := 0 }, { name := "$VALUES", type := (.array (.object "com/example/ratebook/ratebook/HttpReader$Part")), accessFlags := 4122, slot := 7, constantValue := 0 }]
  methods := #[]
  instanceTypes := #[(.object "java/lang/String"), .int, .int]
  staticTypes := #[(.object "com/example/ratebook/ratebook/HttpReader$Part"), (.object "com/example/ratebook/ratebook/HttpReader$Part"), (.object "com/example/ratebook/ratebook/HttpReader$Part"), (.object "com/example/ratebook/ratebook/HttpReader$Part"), (.object "com/example/ratebook/ratebook/HttpReader$Part"), (.object "com/example/ratebook/ratebook/HttpReader$Part"), (.object "com/example/ratebook/ratebook/HttpReader$Part"), (.array (.object "com/example/ratebook/ratebook/HttpReader$Part"))]
  resolved := Array.replicate 72 none
  statics := some 0 }

def pool8 : Array CpInfo := pool [(1, u "java/lang/Cloneable"), (0, .class_ 1), (0, u "java/lang/Object"), (0, .class_ 3)] 3

/-- java/lang/Cloneable -/
def k8 : Class := { plain "java/lang/Cloneable" (some 0) with
  accessFlags := 1537
  interfaces := #[]
  cf := some (fileOf pool8 2 #[] #[] 1537 4 #[] #[])
  fields := #[]
  methods := #[]
  instanceTypes := #[]
  staticTypes := #[]
  resolved := Array.replicate 8 none
  statics := none }

/-- the primitive byte -/
def k9 : Class := { plain "byte" none with kind := .primitive 'B', accessFlags := 0x411 }
/-- [B -/
def k10 : Class := { plain "[B" (some 0) with kind := .array 9 .byte, interfaces := #[8, 5], accessFlags := 1041 }

/-- the primitive int -/
def k11 : Class := { plain "int" none with kind := .primitive 'I', accessFlags := 0x411 }
/-- [I -/
def k12 : Class := { plain "[I" (some 0) with kind := .array 11 .int, interfaces := #[8, 5], accessFlags := 1041 }

def heap : Heap := #[{ cls := 7, slots := #[.ref 1, .null, .null, .null, .null, .null, .null, .null], vm := .statics 7 },
  { cls := 7, slots := #[.null, .int 0, .int 0], vm := .none }]
def classes : Array Class := #[k0, k1, k2, k3, k4, k5, k6, k7, k8, k9, k10, k11, k12]
def interned : List (Array UInt16 × Addr) := []
def slotsUsed : Nat := 11
def theMethod : MethodId := ⟨1, 1⟩
def args0 : Array Value := #[.int 1, .int 2]
def aboutOver (below : List Frame) : State where
  vm := { classes := classes, interned := interned.toArray }
  heap := heap
  slotsUsed := slotsUsed
  threads := #[{ frames := .invoking theMethod args0 :: below }]
def below0 : List Frame := [.native { method := ⟨0, 0⟩, args := #[] }]
def about1 : State := aboutOver below0
def p0 : Program := .bare "" "" ""
def e0 : Env := launch0.env 0 0 0
theorem w_frames : about1.frames = Frame.invoking theMethod args0 :: below0 := rfl
set_option maxRecDepth 65536 in
theorem w_args : argsFit about1.vm theMethod args0 = true := by decide +kernel
set_option maxRecDepth 65536 in
theorem w_heap : heapFits about1 = true := by decide +kernel
set_option maxRecDepth 65536 in
theorem w_runnable : about1.curStatus? = some .runnable := by decide +kernel
set_option maxRecDepth 65536 in
theorem w_alone : about1.alone = true := by decide +kernel
set_option maxRecDepth 65536 in
theorem w_named : about1.methodNamed? x = some theMethod := by decide +kernel
set_option maxRecDepth 65536 in
theorem w_hears : about1.hears theMethod below0 = true := by decide +kernel
set_option maxRecDepth 65536 in
theorem w_ripe : about1.ripe theMethod args0 below0 = true := by decide +kernel
theorem w_running : about1.status = .running := rfl
set_option maxRecDepth 65536 in
theorem w_room : about1.hasRoom e0.platform room_1 = true :=
  launch0.hasRoom_least _ room_1 (by decide +kernel) (by decide +kernel) (by decide +kernel) (by decide +kernel) (by decide +kernel) (by decide +kernel)
theorem allAtoms_all (ts : List Jvm.Cond) (a : Array Jvm.Value) (st : Jvm.State) : (allAtoms ts).before a st = ts.all (fun c => c.before a st) := by
  induction ts with
  | nil => rfl
  | cons c t ih =>
    show (Jvm.Cond.and c (allAtoms t)).before a st = _
    rw [Jvm.Cond.before_and, ih, List.all_cons]
def words1 : List Jvm.Cond := Jvm.Cond.code x code maxLocals ret :: tables_1
/-- a 'code' word, met by the world's own term for the bytes: nothing is compared byte by byte -/
theorem code_word {y : MethodName} {bytes : ByteArray} {mx : Nat} {rt : Option FieldType} {a : Array Value} {s : State} {m : MethodId} {meth : Method} {c : Code} (h1 : s.methodNamed? y = some m) (h2 : s.vm.method? m = some meth) (h3 : meth.code = some c) (h4 : c.code = bytes)
    (h5 : (c.maxLocals == mx && c.exceptionTable.isEmpty && decide (c.maxStack ≤ mostOperands) && decide (meth.sig.returnType = rt) && !meth.locks && decide (parseMethodDescriptor y.desc = some meth.sig)) = true) : (Jvm.Cond.code y bytes mx rt).before a s = true := by
  simp only [Bool.and_eq_true, beq_iff_eq, Bool.not_eq_true', decide_eq_true_eq] at h5
  obtain ⟨⟨⟨⟨⟨g1, g2⟩, g3⟩, g4⟩, g5⟩, g6⟩ := h5
  simp [Cond.before, Cond.holds, Cond.value, h1, h2, h3, h4, g1, g2, g3, g4, g5, g6]
def isCode : Jvm.Cond → Bool
  | .code _ _ _ _ => true
  | _ => false
theorem all_split {L : List Jvm.Cond} {P : Jvm.Cond → Bool} (h1 : L.all (fun c => isCode c || P c) = true) (h2 : ∀ c ∈ L.filter isCode, P c = true) : L.all P = true := by
  refine List.all_eq_true.mpr fun c hc => ?_
  have h := List.all_eq_true.mp h1 c hc
  rcases Bool.eq_false_or_eq_true (isCode c) with hi | hi
  · exact h2 c (List.mem_filter.mpr ⟨hc, hi⟩)
  · simpa [hi] using h
set_option maxRecDepth 65536 in
theorem w_c0 : (Jvm.Cond.code x code maxLocals ret).before args0 about1 = true := code_word (m := ⟨1, 1⟩) (meth := k1m1) (c := k1c1) (by decide +kernel) rfl rfl rfl (by decide +kernel)
set_option maxRecDepth 65536 in
theorem w_c1 : (Jvm.Cond.code ({ cls := "com/example/ratebook/ratebook/HttpReader", name := "<init>", desc := "(I)V" } : Jvm.MethodName) prog_24_method_1_code (2 : Nat) (Option.none : Option Jvm.ClassFile.FieldType)).before args0 about1 = true := code_word (m := ⟨2, 0⟩) (meth := k2m0) (c := k2c0) (by decide +kernel) rfl rfl rfl (by decide +kernel)
set_option maxRecDepth 65536 in
theorem w_c2 : (Jvm.Cond.code ({ cls := "java/lang/Object", name := "<init>", desc := "()V" } : Jvm.MethodName) object_method_1_code (1 : Nat) (Option.none : Option Jvm.ClassFile.FieldType)).before args0 about1 = true := code_word (m := ⟨0, 0⟩) (meth := k0m0) (c := k0c0) (by decide +kernel) rfl rfl rfl (by decide +kernel)
set_option maxRecDepth 65536 in
theorem w_c3 : (Jvm.Cond.code ({ cls := "com/example/ratebook/ratebook/HttpReader", name := "held", desc := "()J" } : Jvm.MethodName) prog_24_method_4_code (1 : Nat) (Option.some Jvm.ClassFile.FieldType.long)).before args0 about1 = true := code_word (m := ⟨2, 1⟩) (meth := k2m1) (c := k2c1) (by decide +kernel) rfl rfl rfl (by decide +kernel)
def codes1 : List Jvm.Cond := [Jvm.Cond.code x code maxLocals ret, Jvm.Cond.code ({ cls := "com/example/ratebook/ratebook/HttpReader", name := "<init>", desc := "(I)V" } : Jvm.MethodName) prog_24_method_1_code (2 : Nat) (Option.none : Option Jvm.ClassFile.FieldType), Jvm.Cond.code ({ cls := "java/lang/Object", name := "<init>", desc := "()V" } : Jvm.MethodName) object_method_1_code (1 : Nat) (Option.none : Option Jvm.ClassFile.FieldType), Jvm.Cond.code ({ cls := "com/example/ratebook/ratebook/HttpReader", name := "held", desc := "()J" } : Jvm.MethodName) prog_24_method_4_code (1 : Nat) (Option.some Jvm.ClassFile.FieldType.long)]
set_option maxRecDepth 65536 in
theorem codes_eq : words1.filter isCode = codes1 := rfl
theorem w_codes : ∀ c ∈ words1.filter isCode, c.before args0 about1 = true := by
  rw [codes_eq]
  intro c hc
  simp only [codes1, List.mem_cons, List.not_mem_nil, or_false] at hc
  rcases hc with rfl | rfl | rfl | rfl
  · exact w_c0
  · exact w_c1
  · exact w_c2
  · exact w_c3
set_option maxRecDepth 65536 in
theorem w_t1 : (words1.take 24).all (fun c => isCode c || c.before args0 about1) = true := by decide +kernel
set_option maxRecDepth 65536 in
theorem w_t2 : (words1.drop 24).all (fun c => isCode c || c.before args0 about1) = true := by decide +kernel
theorem w_tables : (allAtoms (Jvm.Cond.code x code maxLocals ret :: tables_1)).before args0 about1 = true := by
  rw [allAtoms_all]
  show words1.all (fun c => c.before args0 about1) = true
  refine all_split ?_ w_codes
  rw [← List.take_append_drop 24 words1, List.all_append, w_t1, w_t2]
  rfl
set_option maxRecDepth 65536 in
theorem w_case : (Jvm.Cond.and given_1 narrow_1).before args0 about1 = true := by decide +kernel
theorem w_applies : (headSpec (Jvm.Cond.code x code maxLocals ret :: tables_1) room_1).applies x e0.platform about1 = true :=
  (Spec.applies_iff w_frames).mpr ⟨w_running, w_runnable, w_alone, w_named, w_hears, w_ripe, w_room, w_tables⟩
theorem atStart : AtStart classFile x code maxLocals ret World_1 tables_1 room_1 Calls_1 rest_1 Pre_1 launch0 p0 e0 about1 theMethod args0 below0 :=
  ⟨lists_1, trivial, launch0.admits_env _ _ _, launch0.least_env, fairChoices_fair.cas, fairChoices_fair.clock, w_frames, w_args, w_heap, w_applies, trivial, trivial, w_case⟩
end start1
theorem witness_1 : WitnessClaimed_1 := ⟨start1.p0, start1.e0, start1.about1, start1.theMethod, start1.args0, start1.below0, start1.atStart⟩
end Jvm.Pilot.@@N@@
