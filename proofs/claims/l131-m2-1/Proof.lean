import JvmDerived
import JvmDerived.Pilot.@@N@@Statement
import JvmDerived.Pilot.@@N@@Code
set_option linter.unusedVariables false
set_option linter.unusedSimpArgs false
namespace Jvm.Pilot.@@N@@
open Jvm Jvm.ClassFile Sem Op Lib Jvm.Free Jvm.Stand Jvm.LawKit Jvm.RoadKit Bundle Jvm.Pilot.@@N@@.Jvm.D
def own_Go (tb : Tables) (e : Env) (below : List Frame) (P : State → Outcome → Prop) (T : State) (g : JFrame) : Prop := ∃ t o, Steps tb e below (T.setTop g) t ∧ P t o
theorem own_go {tb : Tables} {e : Env} {below : List Frame} {P : State → Outcome → Prop} {T T' : State} {g g' : JFrame} (k : ∀ target, Steps tb e below (T'.setTop g') target → Steps tb e below (T.setTop g) target) (h : own_Go tb e below P T' g') : own_Go tb e below P T g := by
  obtain ⟨t, o, a, b⟩ := h
  exact ⟨t, o, k t a, b⟩
theorem own_cast {P Q : Prop} (h : P = Q) (p : P) : Q := h ▸ p
def own_upd (f : Nat → Value) (k : Nat) (v : Value) : Nat → Value := fun i => if i = k then v else f i
/-- an array of length z at a, its element i being f i -/
def own_AV (Z : State) (h : Heap) (a : Addr) (ty : FieldType) (z : Int32) (f : Nat → Value) : Prop := ¬ z < 0 ∧ ∃ c : Cell, Arr Z h a c ty ∧ c.slots.size = z.toNatClampNeg ∧ ∀ i, i < c.slots.size → c.slots[i]? = some (f i)
section
variable {Z : State} {h h' : Heap} {a b : Addr} {ty : FieldType} {z j : Int32} {f : Nat → Value} {v w : Value} {sl k : Nat} {ws : List Addr} {cA : ClassId}
theorem own_AV.lt (F : own_AV Z h a ty z f) : a < h.size := by obtain ⟨_, c, A, -⟩ := F; exact A.lt
theorem own_AV.ext (F : own_AV Z h a ty z f) (E : Ext h h') : own_AV Z h' a ty z f := by obtain ⟨q, c, A, r⟩ := F; exact ⟨q, c, A.ext E, r⟩
theorem own_AV.other (F : own_AV Z h b ty z f) (W : Wr h h' a sl v) (q : b ≠ a) : own_AV Z h' b ty z f := by obtain ⟨q1, c, A, r⟩ := F; exact ⟨q1, c, A.other W q, r⟩
theorem own_AV.keep (F : own_AV Z h a ty z f) (K : Keep h h' ws) (q : a ∉ ws) : own_AV Z h' a ty z f := by obtain ⟨q1, c, A, r⟩ := F; exact ⟨q1, c, ⟨K.2.1 a c A.1 q, A.2⟩, r⟩
theorem own_AV.new (A : Arr Z h a (newA cA ty z) ty) (q : ¬ z < 0) : own_AV Z h a ty z (fun _ => defaultValue ty) :=
  ⟨q, _, A, sz_new _ _ _, fun i hi => by
    rw [sz_new] at hi
    simp [newA, hi]⟩
theorem own_AV.set (F : own_AV Z h a ty z f) (W : Wr h h' a j.toNatClampNeg v) (hk : j.toNatClampNeg = k) : own_AV Z h' a ty z (own_upd f k v) := by
  obtain ⟨q, c, A, s, t⟩ := F
  subst hk
  refine ⟨q, _, A.same W, by rw [sz_set]; exact s, fun i hi => ?_⟩
  rw [sz_set] at hi
  by_cases e : i = j.toNatClampNeg
  · subst e; simp [own_upd, Cell.setSlot, hi]
  · simp only [own_upd, if_neg e, Cell.setSlot]
    rw [Array.getElem?_setIfInBounds_ne (Ne.symm e)]; exact t i hi
theorem own_at {c : Cell} (t : ∀ i, i < c.slots.size → c.slots[i]? = some (f i)) (s : c.slots.size = z.toNatClampNeg) (hin : ¬ (j < 0 ∨ c.slots.size ≤ j.toNatClampNeg)) (hk : j.toNatClampNeg = k) (hv : f k = v) : c.slots[j.toNatClampNeg]? = some v := by
  rw [t _ (Nat.lt_of_not_le fun q => hin (Or.inr q)), hk, hv]
theorem own_sta_keep {C n d : String} (F : Sta Z h C n d w) (K : Keep h h' ws) (q : ∀ x ∈ ws, ∀ c : Cell, h[x]? = some c → c.vm.isStatics = false) : Sta Z h' C n d w := by
  obtain ⟨cf, i, k, f, st, cell, h1, h2, h3, h4, h5, h6, h7⟩ := F
  exact ⟨cf, i, k, f, st, cell, h1, h2, h3, h4, K.2.1 st cell h5 (fun m => by rw [q st m cell h5] at h6; cases h6), h6, h7⟩
theorem own_exa_plain {C : String} (F : Exa Z h a C) : ∀ c : Cell, h[a]? = some c → c.vm.isStatics = false := fun c hc => by
  obtain ⟨c1, k, h1, -, -, h4, -⟩ := F; cases h1.symm.trans hc; exact h4
theorem own_AV.plain (F : own_AV Z h a ty z f) : ∀ c : Cell, h[a]? = some c → c.vm.isStatics = false := fun c hc => by
  obtain ⟨_, c1, A, -⟩ := F; cases A.1.symm.trans hc; exact A.plain
end
theorem own_narb {x : Int32} (h : x = 0 ∨ x = 1) : nar .boolean x = x := by rcases h with rfl | rfl <;> rfl
theorem own_exa_ref {args : Array Value} {s : State} {t : Term} {C : String} (hx : (Jvm.Cond.exactly t C).value args s none s [] = some true) : ∃ a, t.eval args s none [] s = some (.ref a) ∧ Exa s s.heap a C := by
  obtain ⟨a', c', cell, k, e1, -⟩ := Cond.exactly_spec (Cond.before_iff.mpr hx)
  exact ⟨a', e1, Exa.start e1 hx⟩
theorem own_eq_int {args : Array Value} {s : State} {t : Term} {k : Int32} (h : (Jvm.Cond.eq t (Jvm.Term.int k)).value args s none s [] = some true) : t.eval args s none [] s = some (.int k) := by
  cases hv : t.eval args s none [] s with
  | none => simp [Cond.value, hv] at h
  | some v => cases v <;> simp [Cond.value, hv, Term.eval] at h <;> simp [h]
theorem own_fld_int {args : Array Value} {s : State} {t : Term} {C n d : String} {a : Addr} {k : Int32} (ev : t.eval args s none [] s = some (.ref a)) (h : (Jvm.Cond.eq (Jvm.Term.field t C n d) (Jvm.Term.int k)).value args s none s [] = some true) : Fld s s.heap a C n d (.int k) :=
  Fld.start ((fld_at ev).symm.trans (own_eq_int h))
theorem own_nar_c (x : Int32) : nar .char (x.toUInt32.toUInt16.toUInt32.toInt32) = x.toUInt32.toUInt16.toUInt32.toInt32 := Value.int.inj (Jvm.Free.XT.narrow_c x)
theorem own_nar_b (x : Int32) : nar .byte (x.toInt8.toInt32) = x.toInt8.toInt32 := Value.int.inj (Jvm.Free.XT.narrow_b x)
theorem own_NSroot {Z : State} {a0 : Array Value} {O K : String} {n : Nat} (w : (Jvm.Cond.noSuperclass O).before a0 Z = true) (wk : (Jvm.Cond.instantiable K n).before a0 Z = true) (hn : O ≠ K) : NS Z O K := by
  obtain ⟨c, k, h1, h2, h3, -, -⟩ := Cond.noSuperclass_spec w
  obtain ⟨t, kt, g1, -⟩ := Cond.instantiable_spec wk
  have ne := ids_ne h1 g1 hn
  refine ⟨c, t, h1, g1, fun fuel => ?_⟩
  cases fuel with
  | zero => rfl
  | succ f => simp [Vm.isSubclassAux, ne, h2, h3]
theorem own_NSno {Z : State} {a0 : Array Value} {C S K : String} {m : Nat} (w : (Jvm.Cond.superclass C S).before a0 Z = true) (wk : (Jvm.Cond.instantiable K m).before a0 Z = true) (n : NS Z C K) (hn : C ≠ K) : ∃ c t, Z.vm.findClass C = some c ∧ Z.vm.findClass K = some t ∧ Z.vm.assignable c t = false := by
  obtain ⟨c, t, h0, g0, n3⟩ := n
  obtain ⟨p, k, kp, h1, h2, h3, h4, h5, -, h7⟩ := Cond.superclass_spec h0 w
  obtain ⟨t', k', g1, g2, g5, g7, -⟩ := Cond.instantiable_spec wk
  cases g0.symm.trans g1
  have g8 : k'.isInterface = false := by
    cases hi : k'.isInterface <;> simp [hi] at g7 ⊢
  have ne := ids_ne h0 g0 hn
  refine ⟨c, t, h0, g0, ?_⟩
  show Z.vm.assignableAux (255 + 1) c t = false
  simp [Vm.assignableAux, ne, h2, g2, h5, g5, g8, Vm.isSubclass, n3]
theorem own_monoW {s t : State} {o : Outcome} {L : List Loc} {k n k' n' : Nat} (h : ReturnedEndW s o t L k n) (hk : k ≤ k') (hn : n ≤ n') : ReturnedEndW s o t L k' n' := ⟨h.1, h.2.1, h.2.2.1, h.2.2.2.mono hk hn⟩
theorem own_ldcSL {p : Program} {l : Launch} {e : Env} {R : Room} {s : State} {vm0 : Vm} {m : MethodId} {args : Array Value} {below : List Frame} {meth : Method} {c : Code} {T : State} {locs : List Loc} {cells slots : Nat} {Z : State} {a0 : Array Value} {h : Heap}
    (X : Stand p l e R (s.setVm vm0) m args below meth c T locs cells slots) (hx : p.tables.exec = Jvm.exec) (hZ : Z.Warmed39 vm0) {own text : String} {index : Nat} (hown : vm0.findClass own = some m.cls) (w : (Jvm.Cond.stringLink own index text).before a0 Z = true) (wS : ∀ a ∈ Bundle.stringAtoms, a.before a0 Z = true)
    (eT : T.heap = h) {k0 : Nat} (hS : s.Since vm0 k0) (hk : k0 ≤ h.size) {g : JFrame} (hg : g.method = m) (hd : decode c.code g.pc = .ok (.ldc index, 2)) {n : Nat} (hn : 4 * text.toList.length ≤ n) (hbig : n ≤ 536870912) (hc : cells + 2 ≤ R.cells) (hl : slots + (n + 4) ≤ R.slots) :
    ∃ (a : Addr) (T' : State) (h' : Heap) (k1 : Nat), Stand p l e R (s.setVm T'.vm) m args below meth c T' locs (cells + 2) (slots + (n + 4)) ∧ T'.heap = h' ∧ Ext h h' ∧ s.Since T'.vm k1 ∧ k1 ≤ h'.size ∧ Z.Warmed39 (s.setVm T'.vm).vm ∧ (s.setVm T'.vm).vm.findClass own = some m.cls ∧ Lit (s.setVm T'.vm) own index a ∧ (s.setVm vm0).Warmed39 T'.vm ∧
      ∀ target, Steps p.tables e below (T'.setTop { g with pc := g.pc + 2, stack := .ref a :: g.stack }) target → Steps p.tables e below (T.setTop g) target := by
  have wS' : ∀ d ∈ Bundle.stringAtoms, d.before args (s.setVm vm0) = true := fun d hd => by
    have q := wS d hd
    simp only [Bundle.stringAtoms, List.mem_cons, List.not_mem_nil, or_false] at hd
    rcases hd with rfl | rfl | rfl | rfl | rfl | rfl | rfl
    · exact mv (s := s.setVm vm0) hZ q
    · exact mv (s := s.setVm vm0) hZ q
    · exact mvA (s := s.setVm vm0) hZ q
    · exact mv (s := s.setVm vm0) hZ q
    · exact mv (s := s.setVm vm0) hZ q
    · exact mv (s := s.setVm vm0) hZ q
    · exact mv (s := s.setVm vm0) hZ q
  obtain ⟨a, T', X', hS', ⟨kk, hkk, hrr⟩, hb, -, st⟩ := X.ldcStringCold hx (own := own) hown (mvS hZ w) wS' hg hd hn hbig hc hl
  subst eT
  have hf : T'.vm.findClass own = some m.cls := by rw [hS'.1.alike.findClass]; exact hown
  exact ⟨a, T', _, _, X', rfl, ext_of hb, hS.trans hS' (Nat.le_trans hk (ext_of hb).1), Nat.le_refl _, State.Warmed39.trans (t := s.setVm vm0) hZ hS'.1, hf, by simp [Lit, State.resolvedAt?, hf, hkk, hrr], hS'.1, st⟩
theorem own_selfsel {Z s : State} {a0 args : Array Value} {y : MethodName} {n : Nat} (hZ : Z.Warmed39 s.vm) (wi : (Jvm.Cond.instantiable y.cls n).before a0 Z = true) (wm : (Jvm.Cond.instanceMethod y).before a0 Z = true) (wp : (Jvm.Cond.privateMethod y).before a0 Z = true) (hy : y.cls ≠ "java/lang/invoke/MethodHandle" ∧ y.cls ≠ "java/lang/invoke/VarHandle") : (Jvm.Cond.selects y.cls y y).before args s = true := by
  obtain ⟨c, k, h1, h2, -, h4, -⟩ := Cond.instantiable_spec (mvT (args := args) hZ wi)
  have g8 : k.isInterface = false := by
    cases hi : k.isInterface <;> simp [hi] at h4 ⊢
  exact selects_self_of_private h1 h2 g8 (Cond.privateMethod_at (mvP hZ wp (args := #[]))) (mvT hZ wm) hy
theorem own_addeq {k a b m n : Nat} (h : k = a + b) (h1 : a = m) (h2 : m + b = n) : k = n := by subst h1; exact h.trans h2
theorem own_lt {a b : Nat} (h : a < b) : a < b := h
theorem own_ne {a b : Nat} (h : a < b ∨ b < a) : a ≠ b := by omega
def own_lts : List Nat → Prop
  | a :: b :: r => a < b ∧ own_lts (b :: r)
  | _ => True

theorem own_pn0 : plainName "java/util/ArrayDeque" = true := by first | (simp [plainName, overriddenIn]; done) | decide +kernel
theorem own_pn1 : plainName "java/util/AbstractCollection" = true := by first | (simp [plainName, overriddenIn]; done) | decide +kernel
theorem own_pn2 : plainName "com/example/fencepost/fencepost/connector/SlotConfirmation" = true := by first | (simp [plainName, overriddenIn]; done) | decide +kernel
theorem own_pn3 : plainName "com/example/fencepost/fencepost/connector/SlotConfirmation$Transaction" = true := by first | (simp [plainName, overriddenIn]; done) | decide +kernel
theorem own_pn4 : plainName "com/example/fencepost/fencepost/connector/SlotConfirmationIdlePinLaw" = true := by first | (simp [plainName, overriddenIn]; done) | decide +kernel
theorem own_pd0 : parseMethodDescriptor "(II)I" = some ⟨[.int, .int], some .int⟩ := by decide +kernel
theorem own_pd1 : parseMethodDescriptor "([Ljava/lang/Object;I)Ljava/lang/Object;" = some ⟨[(.array (.object "java/lang/Object")), .int], some (.object "java/lang/Object")⟩ := by decide +kernel
theorem own_pd2 : parseMethodDescriptor "(Ljava/lang/Object;)V" = some ⟨[(.object "java/lang/Object")], none⟩ := by decide +kernel
theorem own_pd3 : parseMethodDescriptor "()Ljava/lang/Object;" = some ⟨[], some (.object "java/lang/Object")⟩ := by decide +kernel
theorem own_pd4 : parseMethodDescriptor "()V" = some ⟨[], none⟩ := by decide +kernel
theorem own_pd5 : parseMethodDescriptor "(JJ)V" = some ⟨[.long, .long], none⟩ := by decide +kernel
theorem own_pd6 : parseMethodDescriptor "(Ljava/lang/Object;)Z" = some ⟨[(.object "java/lang/Object")], some .boolean⟩ := by decide +kernel
theorem own_pd7 : parseMethodDescriptor "()Z" = some ⟨[], some .boolean⟩ := by decide +kernel
theorem own_pd8 : parseMethodDescriptor "(JJ)J" = some ⟨[.long, .long], some .long⟩ := by decide +kernel
theorem own_pd9 : parseMethodDescriptor "(J)V" = some ⟨[.long], none⟩ := by decide +kernel
theorem own_pd10 : parseMethodDescriptor "()J" = some ⟨[], some .long⟩ := by decide +kernel
section
variable {p : Program} {l : Launch} {e : Env} {R : Room} {s : State} {m : MethodId} {args : Array Value} {below : List Frame} {meth : Method} {c : Code} {T : State} {locs : List Loc} {cells slots : Nat} {Z : State} {a0 : Array Value} {h h' : Heap} {ws : List Addr}
/-- the array at a is one over the class named C -/
def own_OA (Z : State) (h : Heap) (a : Addr) (C : String) : Prop := ∃ c : Cell, h[a]? = some c ∧ Ovr Z c.cls C
theorem own_OA.lt {a : Addr} {C : String} (F : own_OA Z h a C) : a < h.size := by obtain ⟨_, h1, -⟩ := F; exact (Array.getElem?_eq_some_iff.mp h1).1
theorem own_OA.ext {a : Addr} {C : String} (F : own_OA Z h a C) (E : Ext h h') : own_OA Z h' a C := by obtain ⟨c, h1, r⟩ := F; exact ⟨c, E.2 _ _ h1, r⟩
theorem own_OA.wr {a b : Addr} {C : String} {sl : Nat} {v : Value} (F : own_OA Z h b C) (W : Wr h h' a sl v) : own_OA Z h' b C := by
  obtain ⟨c, h1, r⟩ := F
  obtain ⟨c', e1, e2, -⟩ := wr_at W h1
  exact ⟨c', e1, e2 ▸ r⟩
theorem own_OA.keep {a : Addr} {C : String} (F : own_OA Z h a C) (K : Keep h h' ws) : own_OA Z h' a C := by
  obtain ⟨c, h1, r⟩ := F
  obtain ⟨c', q, r1, -⟩ := K.2.2 a c h1
  exact ⟨c', q, r1 ▸ r⟩
theorem own_OA.sto {a y : Addr} {cl : Cell} {ty : FieldType} {C : String} (A : Arr Z h a cl ty) (O : own_OA Z h a C) (I : Ins Z h y C true) : Sto Z h a (.ref y) := by
  obtain ⟨c, h1, r⟩ := O
  cases A.1.symm.trans h1
  exact Sto.of A r I
theorem own_frAt (X : Stand p l e R s m args below meth c T locs cells slots) (hZ : Z.Warmed39 s.vm) {own O n d : String} {index : Nat} (hown : s.vm.findClass own = some m.cls) (w : (Jvm.Cond.fieldRef own index O n d).before a0 Z = true) {cf i : Nat} {k : Class} {f : Field} (hf : Z.fieldFound? O n d = some (cf, k, i, f)) : T.vm.fieldReady m.cls index cf f := by
  have hT : Z.Warmed39 T.vm := State.Warmed39.trans (t := s) hZ X.warmed.wide
  have hc : (Z.setVm T.vm).vm.findClass own = some m.cls := (X.warmed.alike.findClass own none).trans hown
  obtain ⟨c2, k2, i2, f2, q1, q2⟩ := Cond.fieldRef_spec hc (Cond.fieldRef_warmed39 hT w)
  obtain ⟨k', hi, -⟩ := State.fieldFound?_setVm (s := Z) hT.alike hf
  cases q1.symm.trans hi
  exact q2
theorem own_getFR (X : Stand p l e R s m args below meth c T locs cells slots) (hx : p.tables.exec = Jvm.exec) (hZ : Z.Warmed39 s.vm) {own O n d : String} {index : Nat} (hown : s.vm.findClass own = some m.cls) (w : (Jvm.Cond.fieldRef own index O n d).before a0 Z = true)
    (eT : T.heap = h) {a : Addr} {v : Value} (F : Fld Z h a O n d v) {g : JFrame} (hg : g.method = m) {rest : List Value} (hs : g.stack = .ref a :: rest) (hd : decode c.code g.pc = .ok (.getfield index, 3)) :
    ∃ T', Stand p l e R s m args below meth c T' locs cells slots ∧ T'.heap = h ∧ ∀ target, Steps p.tables e below (T'.setTop { g with pc := g.pc + 3, stack := v :: rest }) target → Steps p.tables e below (T.setTop g) target := by
  obtain ⟨cell, cf, k, i, f, h1, h2, h3, h4, -, -, h7⟩ := F
  exact ⟨T, X, eT, fun target st => (X.getfieldR hx hg (own_frAt X hZ hown w h2) h3 hs (by rw [eT]; exact h1) h4 h7 hd (Steps.refl _)).trans st⟩
theorem own_putFR (X : Stand p l e R s m args below meth c T locs cells slots) (hx : p.tables.exec = Jvm.exec) (hZ : Z.Warmed39 s.vm) {own O n d C : String} {index kk : Nat} {ty : FieldType} (hown : s.vm.findClass own = some m.cls) (w : (Jvm.Cond.fieldRef own index O n d).before a0 Z = true)
    (eT : T.heap = h) {a : Addr} {v old : Value} (F : Fld Z h a O n d old) (E : Exa Z h a C) (L : (Jvm.Cond.lays C O n d).before a0 Z = true) (wi : (Jvm.Cond.instantiable C kk).before a0 Z = true)
    (hty : parseFieldDescriptor d = some ty) (hn : narrow ty v = v) (hf : fits ty v = true) {g : JFrame} (hg : g.method = m) {rest : List Value} (hs : g.stack = v :: .ref a :: rest) (hd : decode c.code g.pc = .ok (.putfield index, 3)) :
    ∃ T' h', Stand p l e R s m args below meth c T' (locs ++ [⟨a, Jvm.RoadKit.slotOf Z O n d⟩]) cells slots ∧ T'.heap = h' ∧ Wr h h' a (Jvm.RoadKit.slotOf Z O n d) v ∧ ∀ target, Steps p.tables e below (T'.setTop { g with pc := g.pc + 3, stack := rest }) target → Steps p.tables e below (T.setTop g) target := by
  obtain ⟨cell, cf, k, i, f, h1, h2, h3, h4, h5, -, h7⟩ := F
  obtain ⟨ce, kc, e1, e2, e3, -⟩ := E
  obtain ⟨c1, k1, cf1, kf1, i1, f1, a1, a2, a3, -, a5, -, a7, -⟩ := Cond.lays_spec L
  obtain ⟨c2, k2, j1, j2, j3, -⟩ := Cond.instantiable_spec wi
  cases h1.symm.trans e1
  cases h2.symm.trans a3
  cases e2.symm.trans a1
  cases e2.symm.trans j1
  cases a2.symm.trans j2
  have ht := (State.fieldFound?_type h2 hty).2
  have st0 : Z.slotType? cell.cls cell.vm f.slot = some ty := by
    unfold State.slotType?
    rw [a2]
    cases hv : cell.vm with
    | statics q => rw [hv] at h5; cases h5
    | _ => simp only [Option.bind_eq_bind, Option.bind_some, j3, a7, ht]
  have ff : T.fitsSlot cell.cls cell.vm f.slot v = true := by
    rw [(by rw [← State.fitsSlot_setVm (hZ.alike.trans X.warmed.alike)]; rfl : T.fitsSlot = Z.fitsSlot)]
    simp only [State.fitsSlot, st0, hf]
  have lt := (Array.getElem?_eq_some_iff.mp h7).1
  have es : Jvm.RoadKit.slotOf Z O n d = f.slot := by simp [Jvm.RoadKit.slotOf, h2]
  obtain ⟨X', st⟩ := X.putfieldReady hx (own_frAt X hZ hown w h2) h3 (Or.inl a5) (a := a) (cell := cell) (v := v) (by rw [eT]; exact h1) h4 lt (by rw [ht]; exact hn) ff hg hs hd
  rw [es]
  exact ⟨_, _, X', rfl, ⟨cell, h1, h5, lt, by rw [← eT]; rfl⟩, st⟩
end

theorem own_d7_0 : decode jdk_21_method_7_code 0 = .ok (.iinc 0 (-1), 3) := by decide +kernel
theorem own_d7_3 : decode jdk_21_method_7_code 3 = .ok (.iload_n 0, 1) := by decide +kernel
theorem own_d7_4 : decode jdk_21_method_7_code 4 = .ok (.ifCond .ge 7, 3) := by decide +kernel
theorem own_d7_7 : decode jdk_21_method_7_code 7 = .ok (.iload_n 1, 1) := by decide +kernel
theorem own_d7_8 : decode jdk_21_method_7_code 8 = .ok (.iconst 1, 1) := by decide +kernel
theorem own_d7_9 : decode jdk_21_method_7_code 9 = .ok (.isub, 1) := by decide +kernel
theorem own_d7_10 : decode jdk_21_method_7_code 10 = .ok (.istore_n 0, 1) := by decide +kernel
theorem own_d7_11 : decode jdk_21_method_7_code 11 = .ok (.iload_n 0, 1) := by decide +kernel
theorem own_d7_12 : decode jdk_21_method_7_code 12 = .ok (.ireturn, 1) := by decide +kernel
theorem own_ef_own_rm7_0 (m : MethodId)  : entryFrame m #[(.int (0 : Int32)), (.int (17 : Int32))] 2 = mkF m 0 #[.val (.int (0 : Int32)), .val (.int (17 : Int32))] [] := by first | (simp [entryFrame, mkF, argsToLocals, Value.category]; done) | rfl
def own_Q7_0 (Z : State)  (h0 : Heap) (n0 : Nat) (v : Option Value) (h : Heap) (L : List Loc) : Prop := v = some (.int (16 : Int32)) ∧ Fr n0 L ∧ h = h0
set_option maxRecDepth 65536 in
set_option maxHeartbeats 40000000 in
theorem own_rm7_0 (l : Launch) (Z : State) (a0 : Array Value) (hw : ∀ d ∈ tables_1, d.before a0 Z = true) (ws : List Jvm.Cond)  (h0 : Heap) (n0 : Nat) (Z0 : n0 ≤ h0.size) :
    MetFree l (⟨"java/util/ArrayDeque", "dec", "(II)I"⟩ : MethodName) (head1 (Jvm.Cond.code (⟨"java/util/ArrayDeque", "dec", "(II)I"⟩ : MethodName) jdk_21_method_7_code 2 (some .int) :: ws) ({ frames := 0, cells := 0, slots := 0, locals := 0 } : Room)) (fun a U => a = #[(.int (0 : Int32)), (.int (17 : Int32))] ∧ Z.Warmed39 U.vm ∧ U.heap = h0) (fun _ _ _ _ _ => True) (fun _ U o U' => ∃ v L, o = .returned v ∧ own_Q7_0 Z  h0 n0 v U'.heap L ∧ FrameEnd U o U' L ({ frames := 0, cells := 0, slots := 0, locals := 0 } : Room).cells ({ frames := 0, cells := 0, slots := 0, locals := 0 } : Room).slots) := by
  refine MetFree.of_bodySF (plainFor_of_name own_pn0) hisR ?_
  intro p e s m args below meth c s₁ Bd hml0 hP hK
  obtain ⟨rfl, hZ, hh⟩ := hP
  have hx := Bd.exec
  have hby := Bd.bytes
  have hml : c.maxLocals = 2 := hml0
  have hown : s.vm.findClass "java/util/ArrayDeque" = some m.cls := findClass_of_methodNamed Bd.named
  have hnm := (name_of_methodNamed Bd.named Bd.method).1
  have X0 : Stand p l e ({ frames := 0, cells := 0, slots := 0, locals := 0 } : Room) s m #[(.int (0 : Int32)), (.int (17 : Int32))] below meth c s₁ [] 0 0 := Stand.of_body Bd
  have e0 : s₁.heap = h0 := by rw [← hh, Bd.state]; rfl
  have N0 := Fr.nil n0
  have z0 : n0 ≤ h0.size := Z0
  show own_Go p.tables e below (fun t o => t.status = .running ∧ Ended t below o ∧ ∃ v L, o = .returned v ∧ own_Q7_0 Z  h0 n0 v t.heap L ∧ FrameEnd s o t L ({ frames := 0, cells := 0, slots := 0, locals := 0 } : Room).cells ({ frames := 0, cells := 0, slots := 0, locals := 0 } : Room).slots) s₁ (entryFrame m #[(.int (0 : Int32)), (.int (17 : Int32))] 2)
  rw [own_ef_own_rm7_0 m ]
  show own_Go _ _ _ _ s₁ (mkF m 0 #[.val (.int (0 : Int32)), .val (.int (17 : Int32))] [])
  refine own_go (fun _ k => XS.iinc X0.here hx rfl (hb hby own_d7_0) rfl (l' := #[.val (.int (-1 : Int32)), .val (.int (17 : Int32))]) rfl k) ?_
  show own_Go _ _ _ _ s₁ (mkF m 3 #[.val (.int (-1 : Int32)), .val (.int (17 : Int32))] [])
  refine own_go (fun _ k => XS.iloadN X0.here hx rfl (hb hby own_d7_3) rfl k) ?_
  show own_Go _ _ _ _ s₁ (mkF m 4 #[.val (.int (-1 : Int32)), .val (.int (17 : Int32))] [(.int (-1 : Int32))])
  have hc1 : (-1 : Int32) < 0 := by decide
  refine own_go (fun _ k => XS.ifNo X0.here hx rfl (hb hby own_d7_4) rfl (Jvm.Free.XT.i0_ge_f hc1) k) ?_
  show own_Go _ _ _ _ s₁ (mkF m 7 #[.val (.int (-1 : Int32)), .val (.int (17 : Int32))] [])
  refine own_go (fun _ k => XS.iloadN X0.here hx rfl (hb hby own_d7_7) rfl k) ?_
  show own_Go _ _ _ _ s₁ (mkF m 8 #[.val (.int (-1 : Int32)), .val (.int (17 : Int32))] [(.int (17 : Int32))])
  refine own_go (fun _ k => XS.iconst X0.here hx rfl (hb hby own_d7_8) k) ?_
  show own_Go _ _ _ _ s₁ (mkF m 9 #[.val (.int (-1 : Int32)), .val (.int (17 : Int32))] [(.int (1 : Int32)), (.int (17 : Int32))])
  refine own_go (fun _ k => XS.isub X0.here hx rfl (hb hby own_d7_9) rfl k) ?_
  show own_Go _ _ _ _ s₁ (mkF m 10 #[.val (.int (-1 : Int32)), .val (.int (17 : Int32))] [(.int (16 : Int32))])
  refine own_go (fun _ k => XS.istoreN X0.here hx rfl (hb hby own_d7_10) rfl (l' := #[.val (.int (16 : Int32)), .val (.int (17 : Int32))]) rfl k) ?_
  show own_Go _ _ _ _ s₁ (mkF m 11 #[.val (.int (16 : Int32)), .val (.int (17 : Int32))] [])
  refine own_go (fun _ k => XS.iloadN X0.here hx rfl (hb hby own_d7_11) rfl k) ?_
  show own_Go _ _ _ _ s₁ (mkF m 12 #[.val (.int (16 : Int32)), .val (.int (17 : Int32))] [(.int (16 : Int32))])
  obtain ⟨fs, hr, hrun, hended, hW, hsame⟩ := X0.leave (v := some (.int (16 : Int32))) (fun h => by rw [Bd.returns] at h; cases h)
  refine ⟨_, _, retOut X0 hx Bd.returns rfl (Or.inl ⟨rfl, Or.inl rfl, _, rfl⟩) (hb hby own_d7_12) hr, hrun, hended, _, _, rfl, ?_, ⟨_, rfl⟩, hW, hsame.mono (by decide) (by decide)⟩
  show own_Q7_0 Z  h0 n0 _ s₁.heap _
  rw [e0]
  exact ⟨rfl, N0, rfl⟩
theorem own_ef_own_rm7_1 (m : MethodId)  : entryFrame m #[(.int (1 : Int32)), (.int (17 : Int32))] 2 = mkF m 0 #[.val (.int (1 : Int32)), .val (.int (17 : Int32))] [] := by first | (simp [entryFrame, mkF, argsToLocals, Value.category]; done) | rfl
def own_Q7_1 (Z : State)  (h0 : Heap) (n0 : Nat) (v : Option Value) (h : Heap) (L : List Loc) : Prop := v = some (.int (0 : Int32)) ∧ Fr n0 L ∧ h = h0
set_option maxRecDepth 65536 in
set_option maxHeartbeats 40000000 in
theorem own_rm7_1 (l : Launch) (Z : State) (a0 : Array Value) (hw : ∀ d ∈ tables_1, d.before a0 Z = true) (ws : List Jvm.Cond)  (h0 : Heap) (n0 : Nat) (Z0 : n0 ≤ h0.size) :
    MetFree l (⟨"java/util/ArrayDeque", "dec", "(II)I"⟩ : MethodName) (head1 (Jvm.Cond.code (⟨"java/util/ArrayDeque", "dec", "(II)I"⟩ : MethodName) jdk_21_method_7_code 2 (some .int) :: ws) ({ frames := 0, cells := 0, slots := 0, locals := 0 } : Room)) (fun a U => a = #[(.int (1 : Int32)), (.int (17 : Int32))] ∧ Z.Warmed39 U.vm ∧ U.heap = h0) (fun _ _ _ _ _ => True) (fun _ U o U' => ∃ v L, o = .returned v ∧ own_Q7_1 Z  h0 n0 v U'.heap L ∧ FrameEnd U o U' L ({ frames := 0, cells := 0, slots := 0, locals := 0 } : Room).cells ({ frames := 0, cells := 0, slots := 0, locals := 0 } : Room).slots) := by
  refine MetFree.of_bodySF (plainFor_of_name own_pn0) hisR ?_
  intro p e s m args below meth c s₁ Bd hml0 hP hK
  obtain ⟨rfl, hZ, hh⟩ := hP
  have hx := Bd.exec
  have hby := Bd.bytes
  have hml : c.maxLocals = 2 := hml0
  have hown : s.vm.findClass "java/util/ArrayDeque" = some m.cls := findClass_of_methodNamed Bd.named
  have hnm := (name_of_methodNamed Bd.named Bd.method).1
  have X0 : Stand p l e ({ frames := 0, cells := 0, slots := 0, locals := 0 } : Room) s m #[(.int (1 : Int32)), (.int (17 : Int32))] below meth c s₁ [] 0 0 := Stand.of_body Bd
  have e0 : s₁.heap = h0 := by rw [← hh, Bd.state]; rfl
  have N0 := Fr.nil n0
  have z0 : n0 ≤ h0.size := Z0
  show own_Go p.tables e below (fun t o => t.status = .running ∧ Ended t below o ∧ ∃ v L, o = .returned v ∧ own_Q7_1 Z  h0 n0 v t.heap L ∧ FrameEnd s o t L ({ frames := 0, cells := 0, slots := 0, locals := 0 } : Room).cells ({ frames := 0, cells := 0, slots := 0, locals := 0 } : Room).slots) s₁ (entryFrame m #[(.int (1 : Int32)), (.int (17 : Int32))] 2)
  rw [own_ef_own_rm7_1 m ]
  show own_Go _ _ _ _ s₁ (mkF m 0 #[.val (.int (1 : Int32)), .val (.int (17 : Int32))] [])
  refine own_go (fun _ k => XS.iinc X0.here hx rfl (hb hby own_d7_0) rfl (l' := #[.val (.int (0 : Int32)), .val (.int (17 : Int32))]) rfl k) ?_
  show own_Go _ _ _ _ s₁ (mkF m 3 #[.val (.int (0 : Int32)), .val (.int (17 : Int32))] [])
  refine own_go (fun _ k => XS.iloadN X0.here hx rfl (hb hby own_d7_3) rfl k) ?_
  show own_Go _ _ _ _ s₁ (mkF m 4 #[.val (.int (0 : Int32)), .val (.int (17 : Int32))] [(.int (0 : Int32))])
  have hc1 : ¬ ((0 : Int32) < 0) := by decide
  refine own_go (fun _ k => XS.ifYes X0.here hx rfl (pc0 := 4) (pc' := 11) rfl (hb hby own_d7_4) rfl (Jvm.Free.XT.i0_ge_t hc1) (by decide) (by decide) k) ?_
  show own_Go _ _ _ _ s₁ (mkF m 11 #[.val (.int (0 : Int32)), .val (.int (17 : Int32))] [])
  refine own_go (fun _ k => XS.iloadN X0.here hx rfl (hb hby own_d7_11) rfl k) ?_
  show own_Go _ _ _ _ s₁ (mkF m 12 #[.val (.int (0 : Int32)), .val (.int (17 : Int32))] [(.int (0 : Int32))])
  obtain ⟨fs, hr, hrun, hended, hW, hsame⟩ := X0.leave (v := some (.int (0 : Int32))) (fun h => by rw [Bd.returns] at h; cases h)
  refine ⟨_, _, retOut X0 hx Bd.returns rfl (Or.inl ⟨rfl, Or.inl rfl, _, rfl⟩) (hb hby own_d7_12) hr, hrun, hended, _, _, rfl, ?_, ⟨_, rfl⟩, hW, hsame.mono (by decide) (by decide)⟩
  show own_Q7_1 Z  h0 n0 _ s₁.heap _
  rw [e0]
  exact ⟨rfl, N0, rfl⟩
theorem own_ef_own_rm7_2 (m : MethodId)  : entryFrame m #[(.int (2 : Int32)), (.int (17 : Int32))] 2 = mkF m 0 #[.val (.int (2 : Int32)), .val (.int (17 : Int32))] [] := by first | (simp [entryFrame, mkF, argsToLocals, Value.category]; done) | rfl
def own_Q7_2 (Z : State)  (h0 : Heap) (n0 : Nat) (v : Option Value) (h : Heap) (L : List Loc) : Prop := v = some (.int (1 : Int32)) ∧ Fr n0 L ∧ h = h0
set_option maxRecDepth 65536 in
set_option maxHeartbeats 40000000 in
theorem own_rm7_2 (l : Launch) (Z : State) (a0 : Array Value) (hw : ∀ d ∈ tables_1, d.before a0 Z = true) (ws : List Jvm.Cond)  (h0 : Heap) (n0 : Nat) (Z0 : n0 ≤ h0.size) :
    MetFree l (⟨"java/util/ArrayDeque", "dec", "(II)I"⟩ : MethodName) (head1 (Jvm.Cond.code (⟨"java/util/ArrayDeque", "dec", "(II)I"⟩ : MethodName) jdk_21_method_7_code 2 (some .int) :: ws) ({ frames := 0, cells := 0, slots := 0, locals := 0 } : Room)) (fun a U => a = #[(.int (2 : Int32)), (.int (17 : Int32))] ∧ Z.Warmed39 U.vm ∧ U.heap = h0) (fun _ _ _ _ _ => True) (fun _ U o U' => ∃ v L, o = .returned v ∧ own_Q7_2 Z  h0 n0 v U'.heap L ∧ FrameEnd U o U' L ({ frames := 0, cells := 0, slots := 0, locals := 0 } : Room).cells ({ frames := 0, cells := 0, slots := 0, locals := 0 } : Room).slots) := by
  refine MetFree.of_bodySF (plainFor_of_name own_pn0) hisR ?_
  intro p e s m args below meth c s₁ Bd hml0 hP hK
  obtain ⟨rfl, hZ, hh⟩ := hP
  have hx := Bd.exec
  have hby := Bd.bytes
  have hml : c.maxLocals = 2 := hml0
  have hown : s.vm.findClass "java/util/ArrayDeque" = some m.cls := findClass_of_methodNamed Bd.named
  have hnm := (name_of_methodNamed Bd.named Bd.method).1
  have X0 : Stand p l e ({ frames := 0, cells := 0, slots := 0, locals := 0 } : Room) s m #[(.int (2 : Int32)), (.int (17 : Int32))] below meth c s₁ [] 0 0 := Stand.of_body Bd
  have e0 : s₁.heap = h0 := by rw [← hh, Bd.state]; rfl
  have N0 := Fr.nil n0
  have z0 : n0 ≤ h0.size := Z0
  show own_Go p.tables e below (fun t o => t.status = .running ∧ Ended t below o ∧ ∃ v L, o = .returned v ∧ own_Q7_2 Z  h0 n0 v t.heap L ∧ FrameEnd s o t L ({ frames := 0, cells := 0, slots := 0, locals := 0 } : Room).cells ({ frames := 0, cells := 0, slots := 0, locals := 0 } : Room).slots) s₁ (entryFrame m #[(.int (2 : Int32)), (.int (17 : Int32))] 2)
  rw [own_ef_own_rm7_2 m ]
  show own_Go _ _ _ _ s₁ (mkF m 0 #[.val (.int (2 : Int32)), .val (.int (17 : Int32))] [])
  refine own_go (fun _ k => XS.iinc X0.here hx rfl (hb hby own_d7_0) rfl (l' := #[.val (.int (1 : Int32)), .val (.int (17 : Int32))]) rfl k) ?_
  show own_Go _ _ _ _ s₁ (mkF m 3 #[.val (.int (1 : Int32)), .val (.int (17 : Int32))] [])
  refine own_go (fun _ k => XS.iloadN X0.here hx rfl (hb hby own_d7_3) rfl k) ?_
  show own_Go _ _ _ _ s₁ (mkF m 4 #[.val (.int (1 : Int32)), .val (.int (17 : Int32))] [(.int (1 : Int32))])
  have hc1 : ¬ ((1 : Int32) < 0) := by decide
  refine own_go (fun _ k => XS.ifYes X0.here hx rfl (pc0 := 4) (pc' := 11) rfl (hb hby own_d7_4) rfl (Jvm.Free.XT.i0_ge_t hc1) (by decide) (by decide) k) ?_
  show own_Go _ _ _ _ s₁ (mkF m 11 #[.val (.int (1 : Int32)), .val (.int (17 : Int32))] [])
  refine own_go (fun _ k => XS.iloadN X0.here hx rfl (hb hby own_d7_11) rfl k) ?_
  show own_Go _ _ _ _ s₁ (mkF m 12 #[.val (.int (1 : Int32)), .val (.int (17 : Int32))] [(.int (1 : Int32))])
  obtain ⟨fs, hr, hrun, hended, hW, hsame⟩ := X0.leave (v := some (.int (1 : Int32))) (fun h => by rw [Bd.returns] at h; cases h)
  refine ⟨_, _, retOut X0 hx Bd.returns rfl (Or.inl ⟨rfl, Or.inl rfl, _, rfl⟩) (hb hby own_d7_12) hr, hrun, hended, _, _, rfl, ?_, ⟨_, rfl⟩, hW, hsame.mono (by decide) (by decide)⟩
  show own_Q7_2 Z  h0 n0 _ s₁.heap _
  rw [e0]
  exact ⟨rfl, N0, rfl⟩
theorem own_d12_0 : decode jdk_21_method_6_code 0 = .ok (.iinc 0 1, 3) := by decide +kernel
theorem own_d12_3 : decode jdk_21_method_6_code 3 = .ok (.iload_n 0, 1) := by decide +kernel
theorem own_d12_4 : decode jdk_21_method_6_code 4 = .ok (.iload_n 1, 1) := by decide +kernel
theorem own_d12_5 : decode jdk_21_method_6_code 5 = .ok (.if_icmp .lt 5, 3) := by decide +kernel
theorem own_d12_10 : decode jdk_21_method_6_code 10 = .ok (.iload_n 0, 1) := by decide +kernel
theorem own_d12_11 : decode jdk_21_method_6_code 11 = .ok (.ireturn, 1) := by decide +kernel
theorem own_ef_own_rm12_0 (m : MethodId)  : entryFrame m #[(.int (0 : Int32)), (.int (17 : Int32))] 2 = mkF m 0 #[.val (.int (0 : Int32)), .val (.int (17 : Int32))] [] := by first | (simp [entryFrame, mkF, argsToLocals, Value.category]; done) | rfl
def own_Q12_0 (Z : State)  (h0 : Heap) (n0 : Nat) (v : Option Value) (h : Heap) (L : List Loc) : Prop := v = some (.int (1 : Int32)) ∧ Fr n0 L ∧ h = h0
set_option maxRecDepth 65536 in
set_option maxHeartbeats 40000000 in
theorem own_rm12_0 (l : Launch) (Z : State) (a0 : Array Value) (hw : ∀ d ∈ tables_1, d.before a0 Z = true) (ws : List Jvm.Cond)  (h0 : Heap) (n0 : Nat) (Z0 : n0 ≤ h0.size) :
    MetFree l (⟨"java/util/ArrayDeque", "inc", "(II)I"⟩ : MethodName) (head1 (Jvm.Cond.code (⟨"java/util/ArrayDeque", "inc", "(II)I"⟩ : MethodName) jdk_21_method_6_code 2 (some .int) :: ws) ({ frames := 0, cells := 0, slots := 0, locals := 0 } : Room)) (fun a U => a = #[(.int (0 : Int32)), (.int (17 : Int32))] ∧ Z.Warmed39 U.vm ∧ U.heap = h0) (fun _ _ _ _ _ => True) (fun _ U o U' => ∃ v L, o = .returned v ∧ own_Q12_0 Z  h0 n0 v U'.heap L ∧ FrameEnd U o U' L ({ frames := 0, cells := 0, slots := 0, locals := 0 } : Room).cells ({ frames := 0, cells := 0, slots := 0, locals := 0 } : Room).slots) := by
  refine MetFree.of_bodySF (plainFor_of_name own_pn0) hisR ?_
  intro p e s m args below meth c s₁ Bd hml0 hP hK
  obtain ⟨rfl, hZ, hh⟩ := hP
  have hx := Bd.exec
  have hby := Bd.bytes
  have hml : c.maxLocals = 2 := hml0
  have hown : s.vm.findClass "java/util/ArrayDeque" = some m.cls := findClass_of_methodNamed Bd.named
  have hnm := (name_of_methodNamed Bd.named Bd.method).1
  have X0 : Stand p l e ({ frames := 0, cells := 0, slots := 0, locals := 0 } : Room) s m #[(.int (0 : Int32)), (.int (17 : Int32))] below meth c s₁ [] 0 0 := Stand.of_body Bd
  have e0 : s₁.heap = h0 := by rw [← hh, Bd.state]; rfl
  have N0 := Fr.nil n0
  have z0 : n0 ≤ h0.size := Z0
  show own_Go p.tables e below (fun t o => t.status = .running ∧ Ended t below o ∧ ∃ v L, o = .returned v ∧ own_Q12_0 Z  h0 n0 v t.heap L ∧ FrameEnd s o t L ({ frames := 0, cells := 0, slots := 0, locals := 0 } : Room).cells ({ frames := 0, cells := 0, slots := 0, locals := 0 } : Room).slots) s₁ (entryFrame m #[(.int (0 : Int32)), (.int (17 : Int32))] 2)
  rw [own_ef_own_rm12_0 m ]
  show own_Go _ _ _ _ s₁ (mkF m 0 #[.val (.int (0 : Int32)), .val (.int (17 : Int32))] [])
  refine own_go (fun _ k => XS.iinc X0.here hx rfl (hb hby own_d12_0) rfl (l' := #[.val (.int (1 : Int32)), .val (.int (17 : Int32))]) rfl k) ?_
  show own_Go _ _ _ _ s₁ (mkF m 3 #[.val (.int (1 : Int32)), .val (.int (17 : Int32))] [])
  refine own_go (fun _ k => XS.iloadN X0.here hx rfl (hb hby own_d12_3) rfl k) ?_
  show own_Go _ _ _ _ s₁ (mkF m 4 #[.val (.int (1 : Int32)), .val (.int (17 : Int32))] [(.int (1 : Int32))])
  refine own_go (fun _ k => XS.iloadN X0.here hx rfl (hb hby own_d12_4) rfl k) ?_
  show own_Go _ _ _ _ s₁ (mkF m 5 #[.val (.int (1 : Int32)), .val (.int (17 : Int32))] [(.int (17 : Int32)), (.int (1 : Int32))])
  have hc1 : (1 : Int32) < (17 : Int32) := by decide
  refine own_go (fun _ k => XS.icmpYes X0.here hx rfl (pc0 := 5) (pc' := 10) rfl (hb hby own_d12_5) rfl (Jvm.Free.XT.ii_lt_t hc1) (by decide) (by decide) k) ?_
  show own_Go _ _ _ _ s₁ (mkF m 10 #[.val (.int (1 : Int32)), .val (.int (17 : Int32))] [])
  refine own_go (fun _ k => XS.iloadN X0.here hx rfl (hb hby own_d12_10) rfl k) ?_
  show own_Go _ _ _ _ s₁ (mkF m 11 #[.val (.int (1 : Int32)), .val (.int (17 : Int32))] [(.int (1 : Int32))])
  obtain ⟨fs, hr, hrun, hended, hW, hsame⟩ := X0.leave (v := some (.int (1 : Int32))) (fun h => by rw [Bd.returns] at h; cases h)
  refine ⟨_, _, retOut X0 hx Bd.returns rfl (Or.inl ⟨rfl, Or.inl rfl, _, rfl⟩) (hb hby own_d12_11) hr, hrun, hended, _, _, rfl, ?_, ⟨_, rfl⟩, hW, hsame.mono (by decide) (by decide)⟩
  show own_Q12_0 Z  h0 n0 _ s₁.heap _
  rw [e0]
  exact ⟨rfl, N0, rfl⟩
theorem own_ef_own_rm12_1 (m : MethodId)  : entryFrame m #[(.int (1 : Int32)), (.int (17 : Int32))] 2 = mkF m 0 #[.val (.int (1 : Int32)), .val (.int (17 : Int32))] [] := by first | (simp [entryFrame, mkF, argsToLocals, Value.category]; done) | rfl
def own_Q12_1 (Z : State)  (h0 : Heap) (n0 : Nat) (v : Option Value) (h : Heap) (L : List Loc) : Prop := v = some (.int (2 : Int32)) ∧ Fr n0 L ∧ h = h0
set_option maxRecDepth 65536 in
set_option maxHeartbeats 40000000 in
theorem own_rm12_1 (l : Launch) (Z : State) (a0 : Array Value) (hw : ∀ d ∈ tables_1, d.before a0 Z = true) (ws : List Jvm.Cond)  (h0 : Heap) (n0 : Nat) (Z0 : n0 ≤ h0.size) :
    MetFree l (⟨"java/util/ArrayDeque", "inc", "(II)I"⟩ : MethodName) (head1 (Jvm.Cond.code (⟨"java/util/ArrayDeque", "inc", "(II)I"⟩ : MethodName) jdk_21_method_6_code 2 (some .int) :: ws) ({ frames := 0, cells := 0, slots := 0, locals := 0 } : Room)) (fun a U => a = #[(.int (1 : Int32)), (.int (17 : Int32))] ∧ Z.Warmed39 U.vm ∧ U.heap = h0) (fun _ _ _ _ _ => True) (fun _ U o U' => ∃ v L, o = .returned v ∧ own_Q12_1 Z  h0 n0 v U'.heap L ∧ FrameEnd U o U' L ({ frames := 0, cells := 0, slots := 0, locals := 0 } : Room).cells ({ frames := 0, cells := 0, slots := 0, locals := 0 } : Room).slots) := by
  refine MetFree.of_bodySF (plainFor_of_name own_pn0) hisR ?_
  intro p e s m args below meth c s₁ Bd hml0 hP hK
  obtain ⟨rfl, hZ, hh⟩ := hP
  have hx := Bd.exec
  have hby := Bd.bytes
  have hml : c.maxLocals = 2 := hml0
  have hown : s.vm.findClass "java/util/ArrayDeque" = some m.cls := findClass_of_methodNamed Bd.named
  have hnm := (name_of_methodNamed Bd.named Bd.method).1
  have X0 : Stand p l e ({ frames := 0, cells := 0, slots := 0, locals := 0 } : Room) s m #[(.int (1 : Int32)), (.int (17 : Int32))] below meth c s₁ [] 0 0 := Stand.of_body Bd
  have e0 : s₁.heap = h0 := by rw [← hh, Bd.state]; rfl
  have N0 := Fr.nil n0
  have z0 : n0 ≤ h0.size := Z0
  show own_Go p.tables e below (fun t o => t.status = .running ∧ Ended t below o ∧ ∃ v L, o = .returned v ∧ own_Q12_1 Z  h0 n0 v t.heap L ∧ FrameEnd s o t L ({ frames := 0, cells := 0, slots := 0, locals := 0 } : Room).cells ({ frames := 0, cells := 0, slots := 0, locals := 0 } : Room).slots) s₁ (entryFrame m #[(.int (1 : Int32)), (.int (17 : Int32))] 2)
  rw [own_ef_own_rm12_1 m ]
  show own_Go _ _ _ _ s₁ (mkF m 0 #[.val (.int (1 : Int32)), .val (.int (17 : Int32))] [])
  refine own_go (fun _ k => XS.iinc X0.here hx rfl (hb hby own_d12_0) rfl (l' := #[.val (.int (2 : Int32)), .val (.int (17 : Int32))]) rfl k) ?_
  show own_Go _ _ _ _ s₁ (mkF m 3 #[.val (.int (2 : Int32)), .val (.int (17 : Int32))] [])
  refine own_go (fun _ k => XS.iloadN X0.here hx rfl (hb hby own_d12_3) rfl k) ?_
  show own_Go _ _ _ _ s₁ (mkF m 4 #[.val (.int (2 : Int32)), .val (.int (17 : Int32))] [(.int (2 : Int32))])
  refine own_go (fun _ k => XS.iloadN X0.here hx rfl (hb hby own_d12_4) rfl k) ?_
  show own_Go _ _ _ _ s₁ (mkF m 5 #[.val (.int (2 : Int32)), .val (.int (17 : Int32))] [(.int (17 : Int32)), (.int (2 : Int32))])
  have hc1 : (2 : Int32) < (17 : Int32) := by decide
  refine own_go (fun _ k => XS.icmpYes X0.here hx rfl (pc0 := 5) (pc' := 10) rfl (hb hby own_d12_5) rfl (Jvm.Free.XT.ii_lt_t hc1) (by decide) (by decide) k) ?_
  show own_Go _ _ _ _ s₁ (mkF m 10 #[.val (.int (2 : Int32)), .val (.int (17 : Int32))] [])
  refine own_go (fun _ k => XS.iloadN X0.here hx rfl (hb hby own_d12_10) rfl k) ?_
  show own_Go _ _ _ _ s₁ (mkF m 11 #[.val (.int (2 : Int32)), .val (.int (17 : Int32))] [(.int (2 : Int32))])
  obtain ⟨fs, hr, hrun, hended, hW, hsame⟩ := X0.leave (v := some (.int (2 : Int32))) (fun h => by rw [Bd.returns] at h; cases h)
  refine ⟨_, _, retOut X0 hx Bd.returns rfl (Or.inl ⟨rfl, Or.inl rfl, _, rfl⟩) (hb hby own_d12_11) hr, hrun, hended, _, _, rfl, ?_, ⟨_, rfl⟩, hW, hsame.mono (by decide) (by decide)⟩
  show own_Q12_1 Z  h0 n0 _ s₁.heap _
  rw [e0]
  exact ⟨rfl, N0, rfl⟩
theorem own_d8_0 : decode jdk_21_method_10_code 0 = .ok (.aload_n 0, 1) := by decide +kernel
theorem own_d8_1 : decode jdk_21_method_10_code 1 = .ok (.iload_n 1, 1) := by decide +kernel
theorem own_d8_2 : decode jdk_21_method_10_code 2 = .ok (.aaload, 1) := by decide +kernel
theorem own_d8_3 : decode jdk_21_method_10_code 3 = .ok (.areturn, 1) := by decide +kernel
theorem own_ef_own_rm8n16 (m : MethodId) (x0 : Addr) : entryFrame m #[(.ref x0), (.int (16 : Int32))] 2 = mkF m 0 #[.val (.ref x0), .val (.int (16 : Int32))] [] := by first | (simp [entryFrame, mkF, argsToLocals, Value.category]; done) | rfl
def own_Q8n16 (Z : State) (a_1 : Addr) (g : Nat → Value) (h0 : Heap) (n0 : Nat) (v : Option Value) (h : Heap) (L : List Loc) : Prop := v = some .null ∧ Fr n0 L ∧ h = h0
set_option maxRecDepth 65536 in
set_option maxHeartbeats 40000000 in
theorem own_rm8n16 (l : Launch) (Z : State) (a0 : Array Value) (hw : ∀ d ∈ tables_1, d.before a0 Z = true) (ws : List Jvm.Cond) (a_1 : Addr) (g : Nat → Value) (h0 : Heap) (n0 : Nat) (Z0 : n0 ≤ h0.size) (pr_A_a_1 : own_AV Z h0 a_1 (.object "java/lang/Object") (17 : Int32) g) (hg16 : g 16 = .null) :
    MetFree l (⟨"java/util/ArrayDeque", "elementAt", "([Ljava/lang/Object;I)Ljava/lang/Object;"⟩ : MethodName) (head1 (Jvm.Cond.code (⟨"java/util/ArrayDeque", "elementAt", "([Ljava/lang/Object;I)Ljava/lang/Object;"⟩ : MethodName) jdk_21_method_10_code 2 (some (.object "java/lang/Object")) :: ws) ({ frames := 0, cells := 0, slots := 0, locals := 0 } : Room)) (fun a U => a = #[(.ref a_1), (.int (16 : Int32))] ∧ Z.Warmed39 U.vm ∧ U.heap = h0) (fun _ _ _ _ _ => True) (fun _ U o U' => ∃ v L, o = .returned v ∧ own_Q8n16 Z a_1 g h0 n0 v U'.heap L ∧ FrameEnd U o U' L ({ frames := 0, cells := 0, slots := 0, locals := 0 } : Room).cells ({ frames := 0, cells := 0, slots := 0, locals := 0 } : Room).slots) := by
  refine MetFree.of_bodySF (plainFor_of_name own_pn0) hisR ?_
  intro p e s m args below meth c s₁ Bd hml0 hP hK
  obtain ⟨rfl, hZ, hh⟩ := hP
  have hx := Bd.exec
  have hby := Bd.bytes
  have hml : c.maxLocals = 2 := hml0
  have hown : s.vm.findClass "java/util/ArrayDeque" = some m.cls := findClass_of_methodNamed Bd.named
  have hnm := (name_of_methodNamed Bd.named Bd.method).1
  have X0 : Stand p l e ({ frames := 0, cells := 0, slots := 0, locals := 0 } : Room) s m #[(.ref a_1), (.int (16 : Int32))] below meth c s₁ [] 0 0 := Stand.of_body Bd
  have e0 : s₁.heap = h0 := by rw [← hh, Bd.state]; rfl
  have N0 := Fr.nil n0
  have z0 : n0 ≤ h0.size := Z0
  have z1 := own_lt pr_A_a_1.lt
  show own_Go p.tables e below (fun t o => t.status = .running ∧ Ended t below o ∧ ∃ v L, o = .returned v ∧ own_Q8n16 Z a_1 g h0 n0 v t.heap L ∧ FrameEnd s o t L ({ frames := 0, cells := 0, slots := 0, locals := 0 } : Room).cells ({ frames := 0, cells := 0, slots := 0, locals := 0 } : Room).slots) s₁ (entryFrame m #[(.ref a_1), (.int (16 : Int32))] 2)
  rw [own_ef_own_rm8n16 m a_1]
  show own_Go _ _ _ _ s₁ (mkF m 0 #[.val (.ref a_1), .val (.int (16 : Int32))] [])
  refine own_go (fun _ k => XS.aloadN X0.here hx rfl (hb hby own_d8_0) rfl rfl k) ?_
  show own_Go _ _ _ _ s₁ (mkF m 1 #[.val (.ref a_1), .val (.int (16 : Int32))] [(.ref a_1)])
  refine own_go (fun _ k => XS.iloadN X0.here hx rfl (hb hby own_d8_1) rfl k) ?_
  show own_Go _ _ _ _ s₁ (mkF m 2 #[.val (.ref a_1), .val (.int (16 : Int32))] [(.int (16 : Int32)), (.ref a_1)])
  obtain ⟨q2, c2, R2, s2, t2⟩ := id pr_A_a_1
  have hin2 : ¬ ((16 : Int32) < 0 ∨ c2.slots.size ≤ ((16 : Int32)).toNatClampNeg) := inb_of s2 ⟨by decide, by decide⟩
  have u2 : c2.slots[((16 : Int32)).toNatClampNeg]? = some .null := own_at (k := 16) t2 s2 hin2 (by decide) (hg16)
  refine own_go (fun _ k => X0.aaload hx (j := (16 : Int32)) (v := .null) (by rw [e0]; exact R2.1) (State.isArrayOf_alike hZ.alike R2.2.1) rfl R2.2.2 hin2 u2 (g := (mkF m 2 #[.val (.ref a_1), .val (.int (16 : Int32))] [(.int (16 : Int32)), (.ref a_1)])) rfl rfl (hb hby own_d8_2) _ k) ?_
  show own_Go _ _ _ _ s₁ (mkF m 3 #[.val (.ref a_1), .val (.int (16 : Int32))] [.null])
  obtain ⟨fs, hr, hrun, hended, hW, hsame⟩ := X0.leave (v := some .null) (fun h => by rw [Bd.returns] at h; cases h)
  refine ⟨_, _, retOut X0 hx Bd.returns rfl (Or.inr (Or.inr (Or.inr (Or.inr ⟨rfl, rfl, rfl⟩)))) (hb hby own_d8_3) hr, hrun, hended, _, _, rfl, ?_, ⟨_, rfl⟩, hW, hsame.mono (by decide) (by decide)⟩
  show own_Q8n16 Z a_1 g h0 n0 _ s₁.heap _
  rw [e0]
  exact ⟨rfl, N0, rfl⟩
theorem own_ef_own_rm8n0 (m : MethodId) (x0 : Addr) : entryFrame m #[(.ref x0), (.int (0 : Int32))] 2 = mkF m 0 #[.val (.ref x0), .val (.int (0 : Int32))] [] := by first | (simp [entryFrame, mkF, argsToLocals, Value.category]; done) | rfl
def own_Q8n0 (Z : State) (a_1 : Addr) (g : Nat → Value) (h0 : Heap) (n0 : Nat) (v : Option Value) (h : Heap) (L : List Loc) : Prop := v = some .null ∧ Fr n0 L ∧ h = h0
set_option maxRecDepth 65536 in
set_option maxHeartbeats 40000000 in
theorem own_rm8n0 (l : Launch) (Z : State) (a0 : Array Value) (hw : ∀ d ∈ tables_1, d.before a0 Z = true) (ws : List Jvm.Cond) (a_1 : Addr) (g : Nat → Value) (h0 : Heap) (n0 : Nat) (Z0 : n0 ≤ h0.size) (pr_A_a_1 : own_AV Z h0 a_1 (.object "java/lang/Object") (17 : Int32) g) (hg0 : g 0 = .null) :
    MetFree l (⟨"java/util/ArrayDeque", "elementAt", "([Ljava/lang/Object;I)Ljava/lang/Object;"⟩ : MethodName) (head1 (Jvm.Cond.code (⟨"java/util/ArrayDeque", "elementAt", "([Ljava/lang/Object;I)Ljava/lang/Object;"⟩ : MethodName) jdk_21_method_10_code 2 (some (.object "java/lang/Object")) :: ws) ({ frames := 0, cells := 0, slots := 0, locals := 0 } : Room)) (fun a U => a = #[(.ref a_1), (.int (0 : Int32))] ∧ Z.Warmed39 U.vm ∧ U.heap = h0) (fun _ _ _ _ _ => True) (fun _ U o U' => ∃ v L, o = .returned v ∧ own_Q8n0 Z a_1 g h0 n0 v U'.heap L ∧ FrameEnd U o U' L ({ frames := 0, cells := 0, slots := 0, locals := 0 } : Room).cells ({ frames := 0, cells := 0, slots := 0, locals := 0 } : Room).slots) := by
  refine MetFree.of_bodySF (plainFor_of_name own_pn0) hisR ?_
  intro p e s m args below meth c s₁ Bd hml0 hP hK
  obtain ⟨rfl, hZ, hh⟩ := hP
  have hx := Bd.exec
  have hby := Bd.bytes
  have hml : c.maxLocals = 2 := hml0
  have hown : s.vm.findClass "java/util/ArrayDeque" = some m.cls := findClass_of_methodNamed Bd.named
  have hnm := (name_of_methodNamed Bd.named Bd.method).1
  have X0 : Stand p l e ({ frames := 0, cells := 0, slots := 0, locals := 0 } : Room) s m #[(.ref a_1), (.int (0 : Int32))] below meth c s₁ [] 0 0 := Stand.of_body Bd
  have e0 : s₁.heap = h0 := by rw [← hh, Bd.state]; rfl
  have N0 := Fr.nil n0
  have z0 : n0 ≤ h0.size := Z0
  have z1 := own_lt pr_A_a_1.lt
  show own_Go p.tables e below (fun t o => t.status = .running ∧ Ended t below o ∧ ∃ v L, o = .returned v ∧ own_Q8n0 Z a_1 g h0 n0 v t.heap L ∧ FrameEnd s o t L ({ frames := 0, cells := 0, slots := 0, locals := 0 } : Room).cells ({ frames := 0, cells := 0, slots := 0, locals := 0 } : Room).slots) s₁ (entryFrame m #[(.ref a_1), (.int (0 : Int32))] 2)
  rw [own_ef_own_rm8n0 m a_1]
  show own_Go _ _ _ _ s₁ (mkF m 0 #[.val (.ref a_1), .val (.int (0 : Int32))] [])
  refine own_go (fun _ k => XS.aloadN X0.here hx rfl (hb hby own_d8_0) rfl rfl k) ?_
  show own_Go _ _ _ _ s₁ (mkF m 1 #[.val (.ref a_1), .val (.int (0 : Int32))] [(.ref a_1)])
  refine own_go (fun _ k => XS.iloadN X0.here hx rfl (hb hby own_d8_1) rfl k) ?_
  show own_Go _ _ _ _ s₁ (mkF m 2 #[.val (.ref a_1), .val (.int (0 : Int32))] [(.int (0 : Int32)), (.ref a_1)])
  obtain ⟨q2, c2, R2, s2, t2⟩ := id pr_A_a_1
  have hin2 : ¬ ((0 : Int32) < 0 ∨ c2.slots.size ≤ ((0 : Int32)).toNatClampNeg) := inb_of s2 ⟨by decide, by decide⟩
  have u2 : c2.slots[((0 : Int32)).toNatClampNeg]? = some .null := own_at (k := 0) t2 s2 hin2 (by decide) (hg0)
  refine own_go (fun _ k => X0.aaload hx (j := (0 : Int32)) (v := .null) (by rw [e0]; exact R2.1) (State.isArrayOf_alike hZ.alike R2.2.1) rfl R2.2.2 hin2 u2 (g := (mkF m 2 #[.val (.ref a_1), .val (.int (0 : Int32))] [(.int (0 : Int32)), (.ref a_1)])) rfl rfl (hb hby own_d8_2) _ k) ?_
  show own_Go _ _ _ _ s₁ (mkF m 3 #[.val (.ref a_1), .val (.int (0 : Int32))] [.null])
  obtain ⟨fs, hr, hrun, hended, hW, hsame⟩ := X0.leave (v := some .null) (fun h => by rw [Bd.returns] at h; cases h)
  refine ⟨_, _, retOut X0 hx Bd.returns rfl (Or.inr (Or.inr (Or.inr (Or.inr ⟨rfl, rfl, rfl⟩)))) (hb hby own_d8_3) hr, hrun, hended, _, _, rfl, ?_, ⟨_, rfl⟩, hW, hsame.mono (by decide) (by decide)⟩
  show own_Q8n0 Z a_1 g h0 n0 _ s₁.heap _
  rw [e0]
  exact ⟨rfl, N0, rfl⟩
theorem own_ef_own_rm8r0 (m : MethodId) (x0 : Addr) : entryFrame m #[(.ref x0), (.int (0 : Int32))] 2 = mkF m 0 #[.val (.ref x0), .val (.int (0 : Int32))] [] := by first | (simp [entryFrame, mkF, argsToLocals, Value.category]; done) | rfl
def own_Q8r0 (Z : State) (a_1 : Addr) (g : Nat → Value) (x : Addr) (h0 : Heap) (n0 : Nat) (v : Option Value) (h : Heap) (L : List Loc) : Prop := v = some (.ref x) ∧ Fr n0 L ∧ h = h0
set_option maxRecDepth 65536 in
set_option maxHeartbeats 40000000 in
theorem own_rm8r0 (l : Launch) (Z : State) (a0 : Array Value) (hw : ∀ d ∈ tables_1, d.before a0 Z = true) (ws : List Jvm.Cond) (a_1 : Addr) (g : Nat → Value) (x : Addr) (h0 : Heap) (n0 : Nat) (Z0 : n0 ≤ h0.size) (pr_A_a_1 : own_AV Z h0 a_1 (.object "java/lang/Object") (17 : Int32) g) (hg0 : g 0 = .ref x) :
    MetFree l (⟨"java/util/ArrayDeque", "elementAt", "([Ljava/lang/Object;I)Ljava/lang/Object;"⟩ : MethodName) (head1 (Jvm.Cond.code (⟨"java/util/ArrayDeque", "elementAt", "([Ljava/lang/Object;I)Ljava/lang/Object;"⟩ : MethodName) jdk_21_method_10_code 2 (some (.object "java/lang/Object")) :: ws) ({ frames := 0, cells := 0, slots := 0, locals := 0 } : Room)) (fun a U => a = #[(.ref a_1), (.int (0 : Int32))] ∧ Z.Warmed39 U.vm ∧ U.heap = h0) (fun _ _ _ _ _ => True) (fun _ U o U' => ∃ v L, o = .returned v ∧ own_Q8r0 Z a_1 g x h0 n0 v U'.heap L ∧ FrameEnd U o U' L ({ frames := 0, cells := 0, slots := 0, locals := 0 } : Room).cells ({ frames := 0, cells := 0, slots := 0, locals := 0 } : Room).slots) := by
  refine MetFree.of_bodySF (plainFor_of_name own_pn0) hisR ?_
  intro p e s m args below meth c s₁ Bd hml0 hP hK
  obtain ⟨rfl, hZ, hh⟩ := hP
  have hx := Bd.exec
  have hby := Bd.bytes
  have hml : c.maxLocals = 2 := hml0
  have hown : s.vm.findClass "java/util/ArrayDeque" = some m.cls := findClass_of_methodNamed Bd.named
  have hnm := (name_of_methodNamed Bd.named Bd.method).1
  have X0 : Stand p l e ({ frames := 0, cells := 0, slots := 0, locals := 0 } : Room) s m #[(.ref a_1), (.int (0 : Int32))] below meth c s₁ [] 0 0 := Stand.of_body Bd
  have e0 : s₁.heap = h0 := by rw [← hh, Bd.state]; rfl
  have N0 := Fr.nil n0
  have z0 : n0 ≤ h0.size := Z0
  have z1 := own_lt pr_A_a_1.lt
  show own_Go p.tables e below (fun t o => t.status = .running ∧ Ended t below o ∧ ∃ v L, o = .returned v ∧ own_Q8r0 Z a_1 g x h0 n0 v t.heap L ∧ FrameEnd s o t L ({ frames := 0, cells := 0, slots := 0, locals := 0 } : Room).cells ({ frames := 0, cells := 0, slots := 0, locals := 0 } : Room).slots) s₁ (entryFrame m #[(.ref a_1), (.int (0 : Int32))] 2)
  rw [own_ef_own_rm8r0 m a_1]
  show own_Go _ _ _ _ s₁ (mkF m 0 #[.val (.ref a_1), .val (.int (0 : Int32))] [])
  refine own_go (fun _ k => XS.aloadN X0.here hx rfl (hb hby own_d8_0) rfl rfl k) ?_
  show own_Go _ _ _ _ s₁ (mkF m 1 #[.val (.ref a_1), .val (.int (0 : Int32))] [(.ref a_1)])
  refine own_go (fun _ k => XS.iloadN X0.here hx rfl (hb hby own_d8_1) rfl k) ?_
  show own_Go _ _ _ _ s₁ (mkF m 2 #[.val (.ref a_1), .val (.int (0 : Int32))] [(.int (0 : Int32)), (.ref a_1)])
  obtain ⟨q2, c2, R2, s2, t2⟩ := id pr_A_a_1
  have hin2 : ¬ ((0 : Int32) < 0 ∨ c2.slots.size ≤ ((0 : Int32)).toNatClampNeg) := inb_of s2 ⟨by decide, by decide⟩
  have u2 : c2.slots[((0 : Int32)).toNatClampNeg]? = some (.ref x) := own_at (k := 0) t2 s2 hin2 (by decide) (hg0)
  refine own_go (fun _ k => X0.aaload hx (j := (0 : Int32)) (v := (.ref x)) (by rw [e0]; exact R2.1) (State.isArrayOf_alike hZ.alike R2.2.1) rfl R2.2.2 hin2 u2 (g := (mkF m 2 #[.val (.ref a_1), .val (.int (0 : Int32))] [(.int (0 : Int32)), (.ref a_1)])) rfl rfl (hb hby own_d8_2) _ k) ?_
  show own_Go _ _ _ _ s₁ (mkF m 3 #[.val (.ref a_1), .val (.int (0 : Int32))] [(.ref x)])
  obtain ⟨fs, hr, hrun, hended, hW, hsame⟩ := X0.leave (v := some (.ref x)) (fun h => by rw [Bd.returns] at h; cases h)
  refine ⟨_, _, retOut X0 hx Bd.returns rfl (Or.inr (Or.inr (Or.inr (Or.inr ⟨rfl, rfl, rfl⟩)))) (hb hby own_d8_3) hr, hrun, hended, _, _, rfl, ?_, ⟨_, rfl⟩, hW, hsame.mono (by decide) (by decide)⟩
  show own_Q8r0 Z a_1 g x h0 n0 _ s₁.heap _
  rw [e0]
  exact ⟨rfl, N0, rfl⟩
theorem own_ef_own_rm8r1 (m : MethodId) (x0 : Addr) : entryFrame m #[(.ref x0), (.int (1 : Int32))] 2 = mkF m 0 #[.val (.ref x0), .val (.int (1 : Int32))] [] := by first | (simp [entryFrame, mkF, argsToLocals, Value.category]; done) | rfl
def own_Q8r1 (Z : State) (a_1 : Addr) (g : Nat → Value) (x : Addr) (h0 : Heap) (n0 : Nat) (v : Option Value) (h : Heap) (L : List Loc) : Prop := v = some (.ref x) ∧ Fr n0 L ∧ h = h0
set_option maxRecDepth 65536 in
set_option maxHeartbeats 40000000 in
theorem own_rm8r1 (l : Launch) (Z : State) (a0 : Array Value) (hw : ∀ d ∈ tables_1, d.before a0 Z = true) (ws : List Jvm.Cond) (a_1 : Addr) (g : Nat → Value) (x : Addr) (h0 : Heap) (n0 : Nat) (Z0 : n0 ≤ h0.size) (pr_A_a_1 : own_AV Z h0 a_1 (.object "java/lang/Object") (17 : Int32) g) (hg1 : g 1 = .ref x) :
    MetFree l (⟨"java/util/ArrayDeque", "elementAt", "([Ljava/lang/Object;I)Ljava/lang/Object;"⟩ : MethodName) (head1 (Jvm.Cond.code (⟨"java/util/ArrayDeque", "elementAt", "([Ljava/lang/Object;I)Ljava/lang/Object;"⟩ : MethodName) jdk_21_method_10_code 2 (some (.object "java/lang/Object")) :: ws) ({ frames := 0, cells := 0, slots := 0, locals := 0 } : Room)) (fun a U => a = #[(.ref a_1), (.int (1 : Int32))] ∧ Z.Warmed39 U.vm ∧ U.heap = h0) (fun _ _ _ _ _ => True) (fun _ U o U' => ∃ v L, o = .returned v ∧ own_Q8r1 Z a_1 g x h0 n0 v U'.heap L ∧ FrameEnd U o U' L ({ frames := 0, cells := 0, slots := 0, locals := 0 } : Room).cells ({ frames := 0, cells := 0, slots := 0, locals := 0 } : Room).slots) := by
  refine MetFree.of_bodySF (plainFor_of_name own_pn0) hisR ?_
  intro p e s m args below meth c s₁ Bd hml0 hP hK
  obtain ⟨rfl, hZ, hh⟩ := hP
  have hx := Bd.exec
  have hby := Bd.bytes
  have hml : c.maxLocals = 2 := hml0
  have hown : s.vm.findClass "java/util/ArrayDeque" = some m.cls := findClass_of_methodNamed Bd.named
  have hnm := (name_of_methodNamed Bd.named Bd.method).1
  have X0 : Stand p l e ({ frames := 0, cells := 0, slots := 0, locals := 0 } : Room) s m #[(.ref a_1), (.int (1 : Int32))] below meth c s₁ [] 0 0 := Stand.of_body Bd
  have e0 : s₁.heap = h0 := by rw [← hh, Bd.state]; rfl
  have N0 := Fr.nil n0
  have z0 : n0 ≤ h0.size := Z0
  have z1 := own_lt pr_A_a_1.lt
  show own_Go p.tables e below (fun t o => t.status = .running ∧ Ended t below o ∧ ∃ v L, o = .returned v ∧ own_Q8r1 Z a_1 g x h0 n0 v t.heap L ∧ FrameEnd s o t L ({ frames := 0, cells := 0, slots := 0, locals := 0 } : Room).cells ({ frames := 0, cells := 0, slots := 0, locals := 0 } : Room).slots) s₁ (entryFrame m #[(.ref a_1), (.int (1 : Int32))] 2)
  rw [own_ef_own_rm8r1 m a_1]
  show own_Go _ _ _ _ s₁ (mkF m 0 #[.val (.ref a_1), .val (.int (1 : Int32))] [])
  refine own_go (fun _ k => XS.aloadN X0.here hx rfl (hb hby own_d8_0) rfl rfl k) ?_
  show own_Go _ _ _ _ s₁ (mkF m 1 #[.val (.ref a_1), .val (.int (1 : Int32))] [(.ref a_1)])
  refine own_go (fun _ k => XS.iloadN X0.here hx rfl (hb hby own_d8_1) rfl k) ?_
  show own_Go _ _ _ _ s₁ (mkF m 2 #[.val (.ref a_1), .val (.int (1 : Int32))] [(.int (1 : Int32)), (.ref a_1)])
  obtain ⟨q2, c2, R2, s2, t2⟩ := id pr_A_a_1
  have hin2 : ¬ ((1 : Int32) < 0 ∨ c2.slots.size ≤ ((1 : Int32)).toNatClampNeg) := inb_of s2 ⟨by decide, by decide⟩
  have u2 : c2.slots[((1 : Int32)).toNatClampNeg]? = some (.ref x) := own_at (k := 1) t2 s2 hin2 (by decide) (hg1)
  refine own_go (fun _ k => X0.aaload hx (j := (1 : Int32)) (v := (.ref x)) (by rw [e0]; exact R2.1) (State.isArrayOf_alike hZ.alike R2.2.1) rfl R2.2.2 hin2 u2 (g := (mkF m 2 #[.val (.ref a_1), .val (.int (1 : Int32))] [(.int (1 : Int32)), (.ref a_1)])) rfl rfl (hb hby own_d8_2) _ k) ?_
  show own_Go _ _ _ _ s₁ (mkF m 3 #[.val (.ref a_1), .val (.int (1 : Int32))] [(.ref x)])
  obtain ⟨fs, hr, hrun, hended, hW, hsame⟩ := X0.leave (v := some (.ref x)) (fun h => by rw [Bd.returns] at h; cases h)
  refine ⟨_, _, retOut X0 hx Bd.returns rfl (Or.inr (Or.inr (Or.inr (Or.inr ⟨rfl, rfl, rfl⟩)))) (hb hby own_d8_3) hr, hrun, hended, _, _, rfl, ?_, ⟨_, rfl⟩, hW, hsame.mono (by decide) (by decide)⟩
  show own_Q8r1 Z a_1 g x h0 n0 _ s₁.heap _
  rw [e0]
  exact ⟨rfl, N0, rfl⟩
theorem own_d6_0 : decode jdk_21_method_25_code 0 = .ok (.aload_n 0, 1) := by decide +kernel
theorem own_d6_1 : decode jdk_21_method_25_code 1 = .ok (.getfield 3, 3) := by decide +kernel
theorem own_d6_4 : decode jdk_21_method_25_code 4 = .ok (.dup, 1) := by decide +kernel
theorem own_d6_5 : decode jdk_21_method_25_code 5 = .ok (.astore_n 1, 1) := by decide +kernel
theorem own_d6_6 : decode jdk_21_method_25_code 6 = .ok (.aload_n 0, 1) := by decide +kernel
theorem own_d6_7 : decode jdk_21_method_25_code 7 = .ok (.getfield 20, 3) := by decide +kernel
theorem own_d6_10 : decode jdk_21_method_25_code 10 = .ok (.aload_n 1, 1) := by decide +kernel
theorem own_d6_11 : decode jdk_21_method_25_code 11 = .ok (.arraylength, 1) := by decide +kernel
theorem own_d6_12 : decode jdk_21_method_25_code 12 = .ok (.invokestatic 68, 3) := by decide +kernel
theorem own_d6_15 : decode jdk_21_method_25_code 15 = .ok (.invokestatic 103, 3) := by decide +kernel
theorem own_d6_18 : decode jdk_21_method_25_code 18 = .ok (.areturn, 1) := by decide +kernel
theorem own_ef_own_rm6_0 (m : MethodId) (x0 : Addr) : entryFrame m #[(.ref x0)] 2 = mkF m 0 #[.val (.ref x0), .unset] [] := by first | (simp [entryFrame, mkF, argsToLocals, Value.category]; done) | rfl
def own_Q6_0 (Z : State) (a_1 : Addr) (ar : Addr) (g : Nat → Value) (h0 : Heap) (n0 : Nat) (v : Option Value) (h : Heap) (L : List Loc) : Prop := v = some .null ∧ Fr n0 L ∧ h = h0
set_option maxRecDepth 65536 in
set_option maxHeartbeats 40000000 in
theorem own_rm6_0 (l : Launch) (Z : State) (a0 : Array Value) (hw : ∀ d ∈ tables_1, d.before a0 Z = true) (ws : List Jvm.Cond) (a_1 : Addr) (ar : Addr) (g : Nat → Value) (h0 : Heap) (n0 : Nat) (Z0 : n0 ≤ h0.size) (pr_F_a_1_elements : Fld Z h0 a_1 "java/util/ArrayDeque" "elements" "[Ljava/lang/Object;" (.ref ar)) (pr_F_a_1_tail : Fld Z h0 a_1 "java/util/ArrayDeque" "tail" "I" (.int (0 : Int32))) (pr_A_ar : own_AV Z h0 ar (.object "java/lang/Object") (17 : Int32) g) (hg16 : g 16 = .null) :
    MetFree l (⟨"java/util/ArrayDeque", "peekLast", "()Ljava/lang/Object;"⟩ : MethodName) (head1 (Jvm.Cond.code (⟨"java/util/ArrayDeque", "peekLast", "()Ljava/lang/Object;"⟩ : MethodName) jdk_21_method_25_code 2 (some (.object "java/lang/Object")) :: ws) ({ frames := 1, cells := 0, slots := 0, locals := 14 } : Room)) (fun a U => a = #[(.ref a_1)] ∧ Z.Warmed39 U.vm ∧ U.heap = h0) (fun _ _ _ _ _ => True) (fun _ U o U' => ∃ v L, o = .returned v ∧ own_Q6_0 Z a_1 ar g h0 n0 v U'.heap L ∧ FrameEnd U o U' L ({ frames := 1, cells := 0, slots := 0, locals := 14 } : Room).cells ({ frames := 1, cells := 0, slots := 0, locals := 14 } : Room).slots) := by
  refine MetFree.of_bodySF (plainFor_of_name own_pn0) hisR ?_
  intro p e s m args below meth c s₁ Bd hml0 hP hK
  obtain ⟨rfl, hZ, hh⟩ := hP
  have hx := Bd.exec
  have hby := Bd.bytes
  have hml : c.maxLocals = 2 := hml0
  have hown : s.vm.findClass "java/util/ArrayDeque" = some m.cls := findClass_of_methodNamed Bd.named
  have hnm := (name_of_methodNamed Bd.named Bd.method).1
  have X0 : Stand p l e ({ frames := 1, cells := 0, slots := 0, locals := 14 } : Room) s m #[(.ref a_1)] below meth c s₁ [] 0 0 := Stand.of_body Bd
  have e0 : s₁.heap = h0 := by rw [← hh, Bd.state]; rfl
  have N0 := Fr.nil n0
  have z0 : n0 ≤ h0.size := Z0
  have z1 := own_lt pr_F_a_1_elements.lt
  have z2 := own_lt pr_F_a_1_tail.lt
  have z3 := own_lt pr_A_ar.lt
  show own_Go p.tables e below (fun t o => t.status = .running ∧ Ended t below o ∧ ∃ v L, o = .returned v ∧ own_Q6_0 Z a_1 ar g h0 n0 v t.heap L ∧ FrameEnd s o t L ({ frames := 1, cells := 0, slots := 0, locals := 14 } : Room).cells ({ frames := 1, cells := 0, slots := 0, locals := 14 } : Room).slots) s₁ (entryFrame m #[(.ref a_1)] 2)
  rw [own_ef_own_rm6_0 m a_1]
  show own_Go _ _ _ _ s₁ (mkF m 0 #[.val (.ref a_1), .unset] [])
  refine own_go (fun _ k => XS.aloadN X0.here hx rfl (hb hby own_d6_0) rfl rfl k) ?_
  show own_Go _ _ _ _ s₁ (mkF m 1 #[.val (.ref a_1), .unset] [(.ref a_1)])
  obtain ⟨T4, X4, e4, st4⟩ := getF X0 hx hZ hown (host := "") (Or.inl (hw _ (List.mem_of_getElem? (i := 24) rfl))) Via.refl e0 pr_F_a_1_elements (g := (mkF m 1 #[.val (.ref a_1), .unset] [(.ref a_1)])) rfl rfl (hb hby own_d6_1)
  refine own_go (fun _ k => st4 _ k) ?_
  show own_Go _ _ _ _ T4 (mkF m 4 #[.val (.ref a_1), .unset] [(.ref ar)])
  refine own_go (fun _ k => XS.dup X4.here hx rfl (hb hby own_d6_4) rfl rfl k) ?_
  show own_Go _ _ _ _ T4 (mkF m 5 #[.val (.ref a_1), .unset] [(.ref ar), (.ref ar)])
  refine own_go (fun _ k => XS.astoreN X4.here hx rfl (hb hby own_d6_5) rfl rfl (l' := #[.val (.ref a_1), .val (.ref ar)]) rfl k) ?_
  show own_Go _ _ _ _ T4 (mkF m 6 #[.val (.ref a_1), .val (.ref ar)] [(.ref ar)])
  refine own_go (fun _ k => XS.aloadN X4.here hx rfl (hb hby own_d6_6) rfl rfl k) ?_
  show own_Go _ _ _ _ T4 (mkF m 7 #[.val (.ref a_1), .val (.ref ar)] [(.ref a_1), (.ref ar)])
  obtain ⟨T5, X5, e5, st5⟩ := getF X4 hx hZ hown (host := "") (Or.inl (hw _ (List.mem_of_getElem? (i := 38) rfl))) Via.refl e4 pr_F_a_1_tail (g := (mkF m 7 #[.val (.ref a_1), .val (.ref ar)] [(.ref a_1), (.ref ar)])) rfl rfl (hb hby own_d6_7)
  refine own_go (fun _ k => st5 _ k) ?_
  show own_Go _ _ _ _ T5 (mkF m 10 #[.val (.ref a_1), .val (.ref ar)] [(.int (0 : Int32)), (.ref ar)])
  refine own_go (fun _ k => XS.aloadN X5.here hx rfl (hb hby own_d6_10) rfl rfl k) ?_
  show own_Go _ _ _ _ T5 (mkF m 11 #[.val (.ref a_1), .val (.ref ar)] [(.ref ar), (.int (0 : Int32)), (.ref ar)])
  obtain ⟨q6, c6, R6, s6, t6⟩ := id pr_A_ar
  refine own_go (fun _ k => X5.arraylength hx (by rw [e5]; exact R6.1) (State.isArrayOf_alike hZ.alike R6.2.1) (g := (mkF m 11 #[.val (.ref a_1), .val (.ref ar)] [(.ref ar), (.int (0 : Int32)), (.ref ar)])) rfl rfl (hb hby own_d6_11) _ k) ?_
  rw [len_of s6 q6]
  show own_Go _ _ _ _ T5 (mkF m 12 #[.val (.ref a_1), .val (.ref ar)] [(.int (17 : Int32)), (.int (0 : Int32)), (.ref ar)])
  obtain ⟨_, _, ⟨T7, L7, k7, n7⟩, -, X7, ⟨Lc7, hQ7, l7, y7, z7⟩, st7⟩ := Jvm.LawKit.callS X5 hx (y := (⟨"java/util/ArrayDeque", "dec", "(II)I"⟩ : MethodName)) hown (mvT hZ (hw _ (List.mem_of_getElem? (i := 40) rfl))) (mvT hZ (hw _ (List.mem_of_getElem? (i := 41) rfl))) (mvT hZ (hw _ (List.mem_of_getElem? (i := 11) rfl))) (mvT hZ (hw _ (List.mem_of_getElem? (i := 42) rfl))) (by decide) (backOf (W := 1) (own_rm7_0 l Z a0 hw []   h0 n0 (by omega) ) hZ (hw _ (List.mem_of_getElem? (i := 42) rfl)) (hw _ (List.mem_of_getElem? (i := 11) rfl)) (by decide) (by decide)) (g := (mkF m 12 #[.val (.ref a_1), .val (.ref ar)] [(.int (17 : Int32)), (.int (0 : Int32)), (.ref ar)])) rfl (by rw [hml]; rfl) (argsL := [(.int (0 : Int32)), (.int (17 : Int32))]) (rest := [(.ref ar)]) (lenOf own_pd0 rfl) rfl (by show 2 * 0 + _ ≤ _; exact Nat.le_of_eq rfl) (hb hby own_d6_12) (fun _ _ => ⟨rfl, e5, (by decide : 0 + 0 ≤ _), (by decide : 0 + 0 ≤ _)⟩)
  dsimp only [Pt.U, Pt.locs, Pt.cells, Pt.slots] at X7 l7 y7 z7 st7 hQ7
  have y7 : k7 = 0 := y7
  have z7 : n7 = 0 := z7
  obtain ⟨rfl, N7q, e7⟩ := hQ7
  have N7 : Fr n0 L7 := by rw [l7]; exact Fr.app N0 N7q
  refine own_go (fun _ k => st7 _ k) ?_
  show own_Go _ _ _ _ T7 (mkF m 15 #[.val (.ref a_1), .val (.ref ar)] [(.int (16 : Int32)), (.ref ar)])
  obtain ⟨_, _, ⟨T8, L8, k8, n8⟩, -, X8, ⟨Lc8, hQ8, l8, y8, z8⟩, st8⟩ := Jvm.LawKit.callS X7 hx (y := (⟨"java/util/ArrayDeque", "elementAt", "([Ljava/lang/Object;I)Ljava/lang/Object;"⟩ : MethodName)) hown (mvT hZ (hw _ (List.mem_of_getElem? (i := 43) rfl))) (mvT hZ (hw _ (List.mem_of_getElem? (i := 44) rfl))) (mvT hZ (hw _ (List.mem_of_getElem? (i := 11) rfl))) (mvT hZ (hw _ (List.mem_of_getElem? (i := 45) rfl))) (by decide) (backOf (W := 0) (own_rm8n16 l Z a0 hw [] ar g h0 n0 (by omega) pr_A_ar hg16) hZ (hw _ (List.mem_of_getElem? (i := 45) rfl)) (hw _ (List.mem_of_getElem? (i := 11) rfl)) (by decide) (by decide)) (g := (mkF m 15 #[.val (.ref a_1), .val (.ref ar)] [(.int (16 : Int32)), (.ref ar)])) rfl (by rw [hml]; rfl) (argsL := [(.ref ar), (.int (16 : Int32))]) (rest := []) (lenOf own_pd1 rfl) rfl (by show 2 * 0 + _ ≤ _; exact Nat.le_of_eq rfl) (hb hby own_d6_15) (fun _ _ => ⟨rfl, e7, (by show k7 + _ ≤ _; rw [y7]; decide), (by show n7 + _ ≤ _; rw [z7]; decide)⟩)
  dsimp only [Pt.U, Pt.locs, Pt.cells, Pt.slots] at X8 l8 y8 z8 st8 hQ8
  have y8 : k8 = 0 := own_addeq y8 (congrArg (fun q => q) y7) rfl
  have z8 : n8 = 0 := own_addeq z8 (congrArg (fun q => q) z7) rfl
  obtain ⟨rfl, N8q, e8⟩ := hQ8
  have N8 : Fr n0 L8 := by rw [l8]; exact Fr.app N7 N8q
  refine own_go (fun _ k => st8 _ k) ?_
  show own_Go _ _ _ _ T8 (mkF m 18 #[.val (.ref a_1), .val (.ref ar)] [.null])
  obtain ⟨fs, hr, hrun, hended, hW, hsame⟩ := X8.leave (v := some .null) (fun h => by rw [Bd.returns] at h; cases h)
  refine ⟨_, _, retOut X8 hx Bd.returns rfl (Or.inr (Or.inr (Or.inr (Or.inr ⟨rfl, rfl, rfl⟩)))) (hb hby own_d6_18) hr, hrun, hended, _, _, rfl, ?_, ⟨_, rfl⟩, hW, hsame.mono (by rw [y8]; decide) (by rw [z8]; decide)⟩
  show own_Q6_0 Z a_1 ar g h0 n0 _ T8.heap _
  rw [e8]
  exact ⟨rfl, N8, rfl⟩
theorem own_ef_own_rm6_1 (m : MethodId) (x0 : Addr) : entryFrame m #[(.ref x0)] 2 = mkF m 0 #[.val (.ref x0), .unset] [] := by first | (simp [entryFrame, mkF, argsToLocals, Value.category]; done) | rfl
def own_Q6_1 (Z : State) (a_1 : Addr) (ar : Addr) (g : Nat → Value) (h0 : Heap) (n0 : Nat) (v : Option Value) (h : Heap) (L : List Loc) : Prop := v = some .null ∧ Fr n0 L ∧ h = h0
set_option maxRecDepth 65536 in
set_option maxHeartbeats 40000000 in
theorem own_rm6_1 (l : Launch) (Z : State) (a0 : Array Value) (hw : ∀ d ∈ tables_1, d.before a0 Z = true) (ws : List Jvm.Cond) (a_1 : Addr) (ar : Addr) (g : Nat → Value) (h0 : Heap) (n0 : Nat) (Z0 : n0 ≤ h0.size) (pr_F_a_1_elements : Fld Z h0 a_1 "java/util/ArrayDeque" "elements" "[Ljava/lang/Object;" (.ref ar)) (pr_F_a_1_tail : Fld Z h0 a_1 "java/util/ArrayDeque" "tail" "I" (.int (1 : Int32))) (pr_A_ar : own_AV Z h0 ar (.object "java/lang/Object") (17 : Int32) g) (hg0 : g 0 = .null) :
    MetFree l (⟨"java/util/ArrayDeque", "peekLast", "()Ljava/lang/Object;"⟩ : MethodName) (head1 (Jvm.Cond.code (⟨"java/util/ArrayDeque", "peekLast", "()Ljava/lang/Object;"⟩ : MethodName) jdk_21_method_25_code 2 (some (.object "java/lang/Object")) :: ws) ({ frames := 1, cells := 0, slots := 0, locals := 14 } : Room)) (fun a U => a = #[(.ref a_1)] ∧ Z.Warmed39 U.vm ∧ U.heap = h0) (fun _ _ _ _ _ => True) (fun _ U o U' => ∃ v L, o = .returned v ∧ own_Q6_1 Z a_1 ar g h0 n0 v U'.heap L ∧ FrameEnd U o U' L ({ frames := 1, cells := 0, slots := 0, locals := 14 } : Room).cells ({ frames := 1, cells := 0, slots := 0, locals := 14 } : Room).slots) := by
  refine MetFree.of_bodySF (plainFor_of_name own_pn0) hisR ?_
  intro p e s m args below meth c s₁ Bd hml0 hP hK
  obtain ⟨rfl, hZ, hh⟩ := hP
  have hx := Bd.exec
  have hby := Bd.bytes
  have hml : c.maxLocals = 2 := hml0
  have hown : s.vm.findClass "java/util/ArrayDeque" = some m.cls := findClass_of_methodNamed Bd.named
  have hnm := (name_of_methodNamed Bd.named Bd.method).1
  have X0 : Stand p l e ({ frames := 1, cells := 0, slots := 0, locals := 14 } : Room) s m #[(.ref a_1)] below meth c s₁ [] 0 0 := Stand.of_body Bd
  have e0 : s₁.heap = h0 := by rw [← hh, Bd.state]; rfl
  have N0 := Fr.nil n0
  have z0 : n0 ≤ h0.size := Z0
  have z1 := own_lt pr_F_a_1_elements.lt
  have z2 := own_lt pr_F_a_1_tail.lt
  have z3 := own_lt pr_A_ar.lt
  show own_Go p.tables e below (fun t o => t.status = .running ∧ Ended t below o ∧ ∃ v L, o = .returned v ∧ own_Q6_1 Z a_1 ar g h0 n0 v t.heap L ∧ FrameEnd s o t L ({ frames := 1, cells := 0, slots := 0, locals := 14 } : Room).cells ({ frames := 1, cells := 0, slots := 0, locals := 14 } : Room).slots) s₁ (entryFrame m #[(.ref a_1)] 2)
  rw [own_ef_own_rm6_1 m a_1]
  show own_Go _ _ _ _ s₁ (mkF m 0 #[.val (.ref a_1), .unset] [])
  refine own_go (fun _ k => XS.aloadN X0.here hx rfl (hb hby own_d6_0) rfl rfl k) ?_
  show own_Go _ _ _ _ s₁ (mkF m 1 #[.val (.ref a_1), .unset] [(.ref a_1)])
  obtain ⟨T4, X4, e4, st4⟩ := getF X0 hx hZ hown (host := "") (Or.inl (hw _ (List.mem_of_getElem? (i := 24) rfl))) Via.refl e0 pr_F_a_1_elements (g := (mkF m 1 #[.val (.ref a_1), .unset] [(.ref a_1)])) rfl rfl (hb hby own_d6_1)
  refine own_go (fun _ k => st4 _ k) ?_
  show own_Go _ _ _ _ T4 (mkF m 4 #[.val (.ref a_1), .unset] [(.ref ar)])
  refine own_go (fun _ k => XS.dup X4.here hx rfl (hb hby own_d6_4) rfl rfl k) ?_
  show own_Go _ _ _ _ T4 (mkF m 5 #[.val (.ref a_1), .unset] [(.ref ar), (.ref ar)])
  refine own_go (fun _ k => XS.astoreN X4.here hx rfl (hb hby own_d6_5) rfl rfl (l' := #[.val (.ref a_1), .val (.ref ar)]) rfl k) ?_
  show own_Go _ _ _ _ T4 (mkF m 6 #[.val (.ref a_1), .val (.ref ar)] [(.ref ar)])
  refine own_go (fun _ k => XS.aloadN X4.here hx rfl (hb hby own_d6_6) rfl rfl k) ?_
  show own_Go _ _ _ _ T4 (mkF m 7 #[.val (.ref a_1), .val (.ref ar)] [(.ref a_1), (.ref ar)])
  obtain ⟨T5, X5, e5, st5⟩ := getF X4 hx hZ hown (host := "") (Or.inl (hw _ (List.mem_of_getElem? (i := 38) rfl))) Via.refl e4 pr_F_a_1_tail (g := (mkF m 7 #[.val (.ref a_1), .val (.ref ar)] [(.ref a_1), (.ref ar)])) rfl rfl (hb hby own_d6_7)
  refine own_go (fun _ k => st5 _ k) ?_
  show own_Go _ _ _ _ T5 (mkF m 10 #[.val (.ref a_1), .val (.ref ar)] [(.int (1 : Int32)), (.ref ar)])
  refine own_go (fun _ k => XS.aloadN X5.here hx rfl (hb hby own_d6_10) rfl rfl k) ?_
  show own_Go _ _ _ _ T5 (mkF m 11 #[.val (.ref a_1), .val (.ref ar)] [(.ref ar), (.int (1 : Int32)), (.ref ar)])
  obtain ⟨q6, c6, R6, s6, t6⟩ := id pr_A_ar
  refine own_go (fun _ k => X5.arraylength hx (by rw [e5]; exact R6.1) (State.isArrayOf_alike hZ.alike R6.2.1) (g := (mkF m 11 #[.val (.ref a_1), .val (.ref ar)] [(.ref ar), (.int (1 : Int32)), (.ref ar)])) rfl rfl (hb hby own_d6_11) _ k) ?_
  rw [len_of s6 q6]
  show own_Go _ _ _ _ T5 (mkF m 12 #[.val (.ref a_1), .val (.ref ar)] [(.int (17 : Int32)), (.int (1 : Int32)), (.ref ar)])
  obtain ⟨_, _, ⟨T7, L7, k7, n7⟩, -, X7, ⟨Lc7, hQ7, l7, y7, z7⟩, st7⟩ := Jvm.LawKit.callS X5 hx (y := (⟨"java/util/ArrayDeque", "dec", "(II)I"⟩ : MethodName)) hown (mvT hZ (hw _ (List.mem_of_getElem? (i := 40) rfl))) (mvT hZ (hw _ (List.mem_of_getElem? (i := 41) rfl))) (mvT hZ (hw _ (List.mem_of_getElem? (i := 11) rfl))) (mvT hZ (hw _ (List.mem_of_getElem? (i := 42) rfl))) (by decide) (backOf (W := 1) (own_rm7_1 l Z a0 hw []   h0 n0 (by omega) ) hZ (hw _ (List.mem_of_getElem? (i := 42) rfl)) (hw _ (List.mem_of_getElem? (i := 11) rfl)) (by decide) (by decide)) (g := (mkF m 12 #[.val (.ref a_1), .val (.ref ar)] [(.int (17 : Int32)), (.int (1 : Int32)), (.ref ar)])) rfl (by rw [hml]; rfl) (argsL := [(.int (1 : Int32)), (.int (17 : Int32))]) (rest := [(.ref ar)]) (lenOf own_pd0 rfl) rfl (by show 2 * 0 + _ ≤ _; exact Nat.le_of_eq rfl) (hb hby own_d6_12) (fun _ _ => ⟨rfl, e5, (by decide : 0 + 0 ≤ _), (by decide : 0 + 0 ≤ _)⟩)
  dsimp only [Pt.U, Pt.locs, Pt.cells, Pt.slots] at X7 l7 y7 z7 st7 hQ7
  have y7 : k7 = 0 := y7
  have z7 : n7 = 0 := z7
  obtain ⟨rfl, N7q, e7⟩ := hQ7
  have N7 : Fr n0 L7 := by rw [l7]; exact Fr.app N0 N7q
  refine own_go (fun _ k => st7 _ k) ?_
  show own_Go _ _ _ _ T7 (mkF m 15 #[.val (.ref a_1), .val (.ref ar)] [(.int (0 : Int32)), (.ref ar)])
  obtain ⟨_, _, ⟨T8, L8, k8, n8⟩, -, X8, ⟨Lc8, hQ8, l8, y8, z8⟩, st8⟩ := Jvm.LawKit.callS X7 hx (y := (⟨"java/util/ArrayDeque", "elementAt", "([Ljava/lang/Object;I)Ljava/lang/Object;"⟩ : MethodName)) hown (mvT hZ (hw _ (List.mem_of_getElem? (i := 43) rfl))) (mvT hZ (hw _ (List.mem_of_getElem? (i := 44) rfl))) (mvT hZ (hw _ (List.mem_of_getElem? (i := 11) rfl))) (mvT hZ (hw _ (List.mem_of_getElem? (i := 45) rfl))) (by decide) (backOf (W := 0) (own_rm8n0 l Z a0 hw [] ar g h0 n0 (by omega) pr_A_ar hg0) hZ (hw _ (List.mem_of_getElem? (i := 45) rfl)) (hw _ (List.mem_of_getElem? (i := 11) rfl)) (by decide) (by decide)) (g := (mkF m 15 #[.val (.ref a_1), .val (.ref ar)] [(.int (0 : Int32)), (.ref ar)])) rfl (by rw [hml]; rfl) (argsL := [(.ref ar), (.int (0 : Int32))]) (rest := []) (lenOf own_pd1 rfl) rfl (by show 2 * 0 + _ ≤ _; exact Nat.le_of_eq rfl) (hb hby own_d6_15) (fun _ _ => ⟨rfl, e7, (by show k7 + _ ≤ _; rw [y7]; decide), (by show n7 + _ ≤ _; rw [z7]; decide)⟩)
  dsimp only [Pt.U, Pt.locs, Pt.cells, Pt.slots] at X8 l8 y8 z8 st8 hQ8
  have y8 : k8 = 0 := own_addeq y8 (congrArg (fun q => q) y7) rfl
  have z8 : n8 = 0 := own_addeq z8 (congrArg (fun q => q) z7) rfl
  obtain ⟨rfl, N8q, e8⟩ := hQ8
  have N8 : Fr n0 L8 := by rw [l8]; exact Fr.app N7 N8q
  refine own_go (fun _ k => st8 _ k) ?_
  show own_Go _ _ _ _ T8 (mkF m 18 #[.val (.ref a_1), .val (.ref ar)] [.null])
  obtain ⟨fs, hr, hrun, hended, hW, hsame⟩ := X8.leave (v := some .null) (fun h => by rw [Bd.returns] at h; cases h)
  refine ⟨_, _, retOut X8 hx Bd.returns rfl (Or.inr (Or.inr (Or.inr (Or.inr ⟨rfl, rfl, rfl⟩)))) (hb hby own_d6_18) hr, hrun, hended, _, _, rfl, ?_, ⟨_, rfl⟩, hW, hsame.mono (by rw [y8]; decide) (by rw [z8]; decide)⟩
  show own_Q6_1 Z a_1 ar g h0 n0 _ T8.heap _
  rw [e8]
  exact ⟨rfl, N8, rfl⟩
theorem own_d14_0 : decode jdk_21_method_23_code 0 = .ok (.aload_n 0, 1) := by decide +kernel
theorem own_d14_1 : decode jdk_21_method_23_code 1 = .ok (.getfield 3, 3) := by decide +kernel
theorem own_d14_4 : decode jdk_21_method_23_code 4 = .ok (.astore_n 1, 1) := by decide +kernel
theorem own_d14_5 : decode jdk_21_method_23_code 5 = .ok (.aload_n 1, 1) := by decide +kernel
theorem own_d14_6 : decode jdk_21_method_23_code 6 = .ok (.aload_n 0, 1) := by decide +kernel
theorem own_d14_7 : decode jdk_21_method_23_code 7 = .ok (.getfield 20, 3) := by decide +kernel
theorem own_d14_10 : decode jdk_21_method_23_code 10 = .ok (.aload_n 1, 1) := by decide +kernel
theorem own_d14_11 : decode jdk_21_method_23_code 11 = .ok (.arraylength, 1) := by decide +kernel
theorem own_d14_12 : decode jdk_21_method_23_code 12 = .ok (.invokestatic 68, 3) := by decide +kernel
theorem own_d14_15 : decode jdk_21_method_23_code 15 = .ok (.invokestatic 103, 3) := by decide +kernel
theorem own_d14_18 : decode jdk_21_method_23_code 18 = .ok (.astore_n 2, 1) := by decide +kernel
theorem own_d14_19 : decode jdk_21_method_23_code 19 = .ok (.aload_n 2, 1) := by decide +kernel
theorem own_d14_20 : decode jdk_21_method_23_code 20 = .ok (.ifnonnull 11, 3) := by decide +kernel
theorem own_d14_31 : decode jdk_21_method_23_code 31 = .ok (.aload_n 2, 1) := by decide +kernel
theorem own_d14_32 : decode jdk_21_method_23_code 32 = .ok (.areturn, 1) := by decide +kernel
theorem own_ef_own_rm14_1 (m : MethodId) (x0 : Addr) : entryFrame m #[(.ref x0)] 3 = mkF m 0 #[.val (.ref x0), .unset, .unset] [] := by first | (simp [entryFrame, mkF, argsToLocals, Value.category]; done) | rfl
def own_Q14_1 (Z : State) (a_1 : Addr) (ar : Addr) (g : Nat → Value) (x : Addr) (h0 : Heap) (n0 : Nat) (v : Option Value) (h : Heap) (L : List Loc) : Prop := v = some (.ref x) ∧ Fr n0 L ∧ h = h0
set_option maxRecDepth 65536 in
set_option maxHeartbeats 40000000 in
theorem own_rm14_1 (l : Launch) (Z : State) (a0 : Array Value) (hw : ∀ d ∈ tables_1, d.before a0 Z = true) (ws : List Jvm.Cond) (a_1 : Addr) (ar : Addr) (g : Nat → Value) (x : Addr) (h0 : Heap) (n0 : Nat) (Z0 : n0 ≤ h0.size) (pr_F_a_1_elements : Fld Z h0 a_1 "java/util/ArrayDeque" "elements" "[Ljava/lang/Object;" (.ref ar)) (pr_F_a_1_tail : Fld Z h0 a_1 "java/util/ArrayDeque" "tail" "I" (.int (1 : Int32))) (pr_A_ar : own_AV Z h0 ar (.object "java/lang/Object") (17 : Int32) g) (hg0 : g 0 = .ref x) :
    MetFree l (⟨"java/util/ArrayDeque", "getLast", "()Ljava/lang/Object;"⟩ : MethodName) (head1 (Jvm.Cond.code (⟨"java/util/ArrayDeque", "getLast", "()Ljava/lang/Object;"⟩ : MethodName) jdk_21_method_23_code 3 (some (.object "java/lang/Object")) :: ws) ({ frames := 1, cells := 0, slots := 0, locals := 14 } : Room)) (fun a U => a = #[(.ref a_1)] ∧ Z.Warmed39 U.vm ∧ U.heap = h0) (fun _ _ _ _ _ => True) (fun _ U o U' => ∃ v L, o = .returned v ∧ own_Q14_1 Z a_1 ar g x h0 n0 v U'.heap L ∧ FrameEnd U o U' L ({ frames := 1, cells := 0, slots := 0, locals := 14 } : Room).cells ({ frames := 1, cells := 0, slots := 0, locals := 14 } : Room).slots) := by
  refine MetFree.of_bodySF (plainFor_of_name own_pn0) hisR ?_
  intro p e s m args below meth c s₁ Bd hml0 hP hK
  obtain ⟨rfl, hZ, hh⟩ := hP
  have hx := Bd.exec
  have hby := Bd.bytes
  have hml : c.maxLocals = 3 := hml0
  have hown : s.vm.findClass "java/util/ArrayDeque" = some m.cls := findClass_of_methodNamed Bd.named
  have hnm := (name_of_methodNamed Bd.named Bd.method).1
  have X0 : Stand p l e ({ frames := 1, cells := 0, slots := 0, locals := 14 } : Room) s m #[(.ref a_1)] below meth c s₁ [] 0 0 := Stand.of_body Bd
  have e0 : s₁.heap = h0 := by rw [← hh, Bd.state]; rfl
  have N0 := Fr.nil n0
  have z0 : n0 ≤ h0.size := Z0
  have z1 := own_lt pr_F_a_1_elements.lt
  have z2 := own_lt pr_F_a_1_tail.lt
  have z3 := own_lt pr_A_ar.lt
  show own_Go p.tables e below (fun t o => t.status = .running ∧ Ended t below o ∧ ∃ v L, o = .returned v ∧ own_Q14_1 Z a_1 ar g x h0 n0 v t.heap L ∧ FrameEnd s o t L ({ frames := 1, cells := 0, slots := 0, locals := 14 } : Room).cells ({ frames := 1, cells := 0, slots := 0, locals := 14 } : Room).slots) s₁ (entryFrame m #[(.ref a_1)] 3)
  rw [own_ef_own_rm14_1 m a_1]
  show own_Go _ _ _ _ s₁ (mkF m 0 #[.val (.ref a_1), .unset, .unset] [])
  refine own_go (fun _ k => XS.aloadN X0.here hx rfl (hb hby own_d14_0) rfl rfl k) ?_
  show own_Go _ _ _ _ s₁ (mkF m 1 #[.val (.ref a_1), .unset, .unset] [(.ref a_1)])
  obtain ⟨T4, X4, e4, st4⟩ := getF X0 hx hZ hown (host := "") (Or.inl (hw _ (List.mem_of_getElem? (i := 24) rfl))) Via.refl e0 pr_F_a_1_elements (g := (mkF m 1 #[.val (.ref a_1), .unset, .unset] [(.ref a_1)])) rfl rfl (hb hby own_d14_1)
  refine own_go (fun _ k => st4 _ k) ?_
  show own_Go _ _ _ _ T4 (mkF m 4 #[.val (.ref a_1), .unset, .unset] [(.ref ar)])
  refine own_go (fun _ k => XS.astoreN X4.here hx rfl (hb hby own_d14_4) rfl rfl (l' := #[.val (.ref a_1), .val (.ref ar), .unset]) rfl k) ?_
  show own_Go _ _ _ _ T4 (mkF m 5 #[.val (.ref a_1), .val (.ref ar), .unset] [])
  refine own_go (fun _ k => XS.aloadN X4.here hx rfl (hb hby own_d14_5) rfl rfl k) ?_
  show own_Go _ _ _ _ T4 (mkF m 6 #[.val (.ref a_1), .val (.ref ar), .unset] [(.ref ar)])
  refine own_go (fun _ k => XS.aloadN X4.here hx rfl (hb hby own_d14_6) rfl rfl k) ?_
  show own_Go _ _ _ _ T4 (mkF m 7 #[.val (.ref a_1), .val (.ref ar), .unset] [(.ref a_1), (.ref ar)])
  obtain ⟨T5, X5, e5, st5⟩ := getF X4 hx hZ hown (host := "") (Or.inl (hw _ (List.mem_of_getElem? (i := 38) rfl))) Via.refl e4 pr_F_a_1_tail (g := (mkF m 7 #[.val (.ref a_1), .val (.ref ar), .unset] [(.ref a_1), (.ref ar)])) rfl rfl (hb hby own_d14_7)
  refine own_go (fun _ k => st5 _ k) ?_
  show own_Go _ _ _ _ T5 (mkF m 10 #[.val (.ref a_1), .val (.ref ar), .unset] [(.int (1 : Int32)), (.ref ar)])
  refine own_go (fun _ k => XS.aloadN X5.here hx rfl (hb hby own_d14_10) rfl rfl k) ?_
  show own_Go _ _ _ _ T5 (mkF m 11 #[.val (.ref a_1), .val (.ref ar), .unset] [(.ref ar), (.int (1 : Int32)), (.ref ar)])
  obtain ⟨q6, c6, R6, s6, t6⟩ := id pr_A_ar
  refine own_go (fun _ k => X5.arraylength hx (by rw [e5]; exact R6.1) (State.isArrayOf_alike hZ.alike R6.2.1) (g := (mkF m 11 #[.val (.ref a_1), .val (.ref ar), .unset] [(.ref ar), (.int (1 : Int32)), (.ref ar)])) rfl rfl (hb hby own_d14_11) _ k) ?_
  rw [len_of s6 q6]
  show own_Go _ _ _ _ T5 (mkF m 12 #[.val (.ref a_1), .val (.ref ar), .unset] [(.int (17 : Int32)), (.int (1 : Int32)), (.ref ar)])
  obtain ⟨_, _, ⟨T7, L7, k7, n7⟩, -, X7, ⟨Lc7, hQ7, l7, y7, z7⟩, st7⟩ := Jvm.LawKit.callS X5 hx (y := (⟨"java/util/ArrayDeque", "dec", "(II)I"⟩ : MethodName)) hown (mvT hZ (hw _ (List.mem_of_getElem? (i := 40) rfl))) (mvT hZ (hw _ (List.mem_of_getElem? (i := 41) rfl))) (mvT hZ (hw _ (List.mem_of_getElem? (i := 11) rfl))) (mvT hZ (hw _ (List.mem_of_getElem? (i := 42) rfl))) (by decide) (backOf (W := 1) (own_rm7_1 l Z a0 hw []   h0 n0 (by omega) ) hZ (hw _ (List.mem_of_getElem? (i := 42) rfl)) (hw _ (List.mem_of_getElem? (i := 11) rfl)) (by decide) (by decide)) (g := (mkF m 12 #[.val (.ref a_1), .val (.ref ar), .unset] [(.int (17 : Int32)), (.int (1 : Int32)), (.ref ar)])) rfl (by rw [hml]; rfl) (argsL := [(.int (1 : Int32)), (.int (17 : Int32))]) (rest := [(.ref ar)]) (lenOf own_pd0 rfl) rfl (by show 2 * 0 + _ ≤ _; exact Nat.le_of_eq rfl) (hb hby own_d14_12) (fun _ _ => ⟨rfl, e5, (by decide : 0 + 0 ≤ _), (by decide : 0 + 0 ≤ _)⟩)
  dsimp only [Pt.U, Pt.locs, Pt.cells, Pt.slots] at X7 l7 y7 z7 st7 hQ7
  have y7 : k7 = 0 := y7
  have z7 : n7 = 0 := z7
  obtain ⟨rfl, N7q, e7⟩ := hQ7
  have N7 : Fr n0 L7 := by rw [l7]; exact Fr.app N0 N7q
  refine own_go (fun _ k => st7 _ k) ?_
  show own_Go _ _ _ _ T7 (mkF m 15 #[.val (.ref a_1), .val (.ref ar), .unset] [(.int (0 : Int32)), (.ref ar)])
  obtain ⟨_, _, ⟨T8, L8, k8, n8⟩, -, X8, ⟨Lc8, hQ8, l8, y8, z8⟩, st8⟩ := Jvm.LawKit.callS X7 hx (y := (⟨"java/util/ArrayDeque", "elementAt", "([Ljava/lang/Object;I)Ljava/lang/Object;"⟩ : MethodName)) hown (mvT hZ (hw _ (List.mem_of_getElem? (i := 43) rfl))) (mvT hZ (hw _ (List.mem_of_getElem? (i := 44) rfl))) (mvT hZ (hw _ (List.mem_of_getElem? (i := 11) rfl))) (mvT hZ (hw _ (List.mem_of_getElem? (i := 45) rfl))) (by decide) (backOf (W := 0) (own_rm8r0 l Z a0 hw [] ar g x h0 n0 (by omega) pr_A_ar hg0) hZ (hw _ (List.mem_of_getElem? (i := 45) rfl)) (hw _ (List.mem_of_getElem? (i := 11) rfl)) (by decide) (by decide)) (g := (mkF m 15 #[.val (.ref a_1), .val (.ref ar), .unset] [(.int (0 : Int32)), (.ref ar)])) rfl (by rw [hml]; rfl) (argsL := [(.ref ar), (.int (0 : Int32))]) (rest := []) (lenOf own_pd1 rfl) rfl (by show 2 * 0 + _ ≤ _; exact Nat.le_of_eq rfl) (hb hby own_d14_15) (fun _ _ => ⟨rfl, e7, (by show k7 + _ ≤ _; rw [y7]; decide), (by show n7 + _ ≤ _; rw [z7]; decide)⟩)
  dsimp only [Pt.U, Pt.locs, Pt.cells, Pt.slots] at X8 l8 y8 z8 st8 hQ8
  have y8 : k8 = 0 := own_addeq y8 (congrArg (fun q => q) y7) rfl
  have z8 : n8 = 0 := own_addeq z8 (congrArg (fun q => q) z7) rfl
  obtain ⟨rfl, N8q, e8⟩ := hQ8
  have N8 : Fr n0 L8 := by rw [l8]; exact Fr.app N7 N8q
  refine own_go (fun _ k => st8 _ k) ?_
  show own_Go _ _ _ _ T8 (mkF m 18 #[.val (.ref a_1), .val (.ref ar), .unset] [(.ref x)])
  refine own_go (fun _ k => XS.astoreN X8.here hx rfl (hb hby own_d14_18) rfl rfl (l' := #[.val (.ref a_1), .val (.ref ar), .val (.ref x)]) rfl k) ?_
  show own_Go _ _ _ _ T8 (mkF m 19 #[.val (.ref a_1), .val (.ref ar), .val (.ref x)] [])
  refine own_go (fun _ k => XS.aloadN X8.here hx rfl (hb hby own_d14_19) rfl rfl k) ?_
  show own_Go _ _ _ _ T8 (mkF m 20 #[.val (.ref a_1), .val (.ref ar), .val (.ref x)] [(.ref x)])
  refine own_go (fun _ k => XS.ifnonnullYes X8.here hx rfl (pc0 := 20) (pc' := 31) rfl (hb hby own_d14_20) rfl (by decide) (by decide) k) ?_
  show own_Go _ _ _ _ T8 (mkF m 31 #[.val (.ref a_1), .val (.ref ar), .val (.ref x)] [])
  refine own_go (fun _ k => XS.aloadN X8.here hx rfl (hb hby own_d14_31) rfl rfl k) ?_
  show own_Go _ _ _ _ T8 (mkF m 32 #[.val (.ref a_1), .val (.ref ar), .val (.ref x)] [(.ref x)])
  obtain ⟨fs, hr, hrun, hended, hW, hsame⟩ := X8.leave (v := some (.ref x)) (fun h => by rw [Bd.returns] at h; cases h)
  refine ⟨_, _, retOut X8 hx Bd.returns rfl (Or.inr (Or.inr (Or.inr (Or.inr ⟨rfl, rfl, rfl⟩)))) (hb hby own_d14_32) hr, hrun, hended, _, _, rfl, ?_, ⟨_, rfl⟩, hW, hsame.mono (by rw [y8]; decide) (by rw [z8]; decide)⟩
  show own_Q14_1 Z a_1 ar g x h0 n0 _ T8.heap _
  rw [e8]
  exact ⟨rfl, N8, rfl⟩
theorem own_ef_own_rm14_2 (m : MethodId) (x0 : Addr) : entryFrame m #[(.ref x0)] 3 = mkF m 0 #[.val (.ref x0), .unset, .unset] [] := by first | (simp [entryFrame, mkF, argsToLocals, Value.category]; done) | rfl
def own_Q14_2 (Z : State) (a_1 : Addr) (ar : Addr) (g : Nat → Value) (x : Addr) (h0 : Heap) (n0 : Nat) (v : Option Value) (h : Heap) (L : List Loc) : Prop := v = some (.ref x) ∧ Fr n0 L ∧ h = h0
set_option maxRecDepth 65536 in
set_option maxHeartbeats 40000000 in
theorem own_rm14_2 (l : Launch) (Z : State) (a0 : Array Value) (hw : ∀ d ∈ tables_1, d.before a0 Z = true) (ws : List Jvm.Cond) (a_1 : Addr) (ar : Addr) (g : Nat → Value) (x : Addr) (h0 : Heap) (n0 : Nat) (Z0 : n0 ≤ h0.size) (pr_F_a_1_elements : Fld Z h0 a_1 "java/util/ArrayDeque" "elements" "[Ljava/lang/Object;" (.ref ar)) (pr_F_a_1_tail : Fld Z h0 a_1 "java/util/ArrayDeque" "tail" "I" (.int (2 : Int32))) (pr_A_ar : own_AV Z h0 ar (.object "java/lang/Object") (17 : Int32) g) (hg1 : g 1 = .ref x) :
    MetFree l (⟨"java/util/ArrayDeque", "getLast", "()Ljava/lang/Object;"⟩ : MethodName) (head1 (Jvm.Cond.code (⟨"java/util/ArrayDeque", "getLast", "()Ljava/lang/Object;"⟩ : MethodName) jdk_21_method_23_code 3 (some (.object "java/lang/Object")) :: ws) ({ frames := 1, cells := 0, slots := 0, locals := 14 } : Room)) (fun a U => a = #[(.ref a_1)] ∧ Z.Warmed39 U.vm ∧ U.heap = h0) (fun _ _ _ _ _ => True) (fun _ U o U' => ∃ v L, o = .returned v ∧ own_Q14_2 Z a_1 ar g x h0 n0 v U'.heap L ∧ FrameEnd U o U' L ({ frames := 1, cells := 0, slots := 0, locals := 14 } : Room).cells ({ frames := 1, cells := 0, slots := 0, locals := 14 } : Room).slots) := by
  refine MetFree.of_bodySF (plainFor_of_name own_pn0) hisR ?_
  intro p e s m args below meth c s₁ Bd hml0 hP hK
  obtain ⟨rfl, hZ, hh⟩ := hP
  have hx := Bd.exec
  have hby := Bd.bytes
  have hml : c.maxLocals = 3 := hml0
  have hown : s.vm.findClass "java/util/ArrayDeque" = some m.cls := findClass_of_methodNamed Bd.named
  have hnm := (name_of_methodNamed Bd.named Bd.method).1
  have X0 : Stand p l e ({ frames := 1, cells := 0, slots := 0, locals := 14 } : Room) s m #[(.ref a_1)] below meth c s₁ [] 0 0 := Stand.of_body Bd
  have e0 : s₁.heap = h0 := by rw [← hh, Bd.state]; rfl
  have N0 := Fr.nil n0
  have z0 : n0 ≤ h0.size := Z0
  have z1 := own_lt pr_F_a_1_elements.lt
  have z2 := own_lt pr_F_a_1_tail.lt
  have z3 := own_lt pr_A_ar.lt
  show own_Go p.tables e below (fun t o => t.status = .running ∧ Ended t below o ∧ ∃ v L, o = .returned v ∧ own_Q14_2 Z a_1 ar g x h0 n0 v t.heap L ∧ FrameEnd s o t L ({ frames := 1, cells := 0, slots := 0, locals := 14 } : Room).cells ({ frames := 1, cells := 0, slots := 0, locals := 14 } : Room).slots) s₁ (entryFrame m #[(.ref a_1)] 3)
  rw [own_ef_own_rm14_2 m a_1]
  show own_Go _ _ _ _ s₁ (mkF m 0 #[.val (.ref a_1), .unset, .unset] [])
  refine own_go (fun _ k => XS.aloadN X0.here hx rfl (hb hby own_d14_0) rfl rfl k) ?_
  show own_Go _ _ _ _ s₁ (mkF m 1 #[.val (.ref a_1), .unset, .unset] [(.ref a_1)])
  obtain ⟨T4, X4, e4, st4⟩ := getF X0 hx hZ hown (host := "") (Or.inl (hw _ (List.mem_of_getElem? (i := 24) rfl))) Via.refl e0 pr_F_a_1_elements (g := (mkF m 1 #[.val (.ref a_1), .unset, .unset] [(.ref a_1)])) rfl rfl (hb hby own_d14_1)
  refine own_go (fun _ k => st4 _ k) ?_
  show own_Go _ _ _ _ T4 (mkF m 4 #[.val (.ref a_1), .unset, .unset] [(.ref ar)])
  refine own_go (fun _ k => XS.astoreN X4.here hx rfl (hb hby own_d14_4) rfl rfl (l' := #[.val (.ref a_1), .val (.ref ar), .unset]) rfl k) ?_
  show own_Go _ _ _ _ T4 (mkF m 5 #[.val (.ref a_1), .val (.ref ar), .unset] [])
  refine own_go (fun _ k => XS.aloadN X4.here hx rfl (hb hby own_d14_5) rfl rfl k) ?_
  show own_Go _ _ _ _ T4 (mkF m 6 #[.val (.ref a_1), .val (.ref ar), .unset] [(.ref ar)])
  refine own_go (fun _ k => XS.aloadN X4.here hx rfl (hb hby own_d14_6) rfl rfl k) ?_
  show own_Go _ _ _ _ T4 (mkF m 7 #[.val (.ref a_1), .val (.ref ar), .unset] [(.ref a_1), (.ref ar)])
  obtain ⟨T5, X5, e5, st5⟩ := getF X4 hx hZ hown (host := "") (Or.inl (hw _ (List.mem_of_getElem? (i := 38) rfl))) Via.refl e4 pr_F_a_1_tail (g := (mkF m 7 #[.val (.ref a_1), .val (.ref ar), .unset] [(.ref a_1), (.ref ar)])) rfl rfl (hb hby own_d14_7)
  refine own_go (fun _ k => st5 _ k) ?_
  show own_Go _ _ _ _ T5 (mkF m 10 #[.val (.ref a_1), .val (.ref ar), .unset] [(.int (2 : Int32)), (.ref ar)])
  refine own_go (fun _ k => XS.aloadN X5.here hx rfl (hb hby own_d14_10) rfl rfl k) ?_
  show own_Go _ _ _ _ T5 (mkF m 11 #[.val (.ref a_1), .val (.ref ar), .unset] [(.ref ar), (.int (2 : Int32)), (.ref ar)])
  obtain ⟨q6, c6, R6, s6, t6⟩ := id pr_A_ar
  refine own_go (fun _ k => X5.arraylength hx (by rw [e5]; exact R6.1) (State.isArrayOf_alike hZ.alike R6.2.1) (g := (mkF m 11 #[.val (.ref a_1), .val (.ref ar), .unset] [(.ref ar), (.int (2 : Int32)), (.ref ar)])) rfl rfl (hb hby own_d14_11) _ k) ?_
  rw [len_of s6 q6]
  show own_Go _ _ _ _ T5 (mkF m 12 #[.val (.ref a_1), .val (.ref ar), .unset] [(.int (17 : Int32)), (.int (2 : Int32)), (.ref ar)])
  obtain ⟨_, _, ⟨T7, L7, k7, n7⟩, -, X7, ⟨Lc7, hQ7, l7, y7, z7⟩, st7⟩ := Jvm.LawKit.callS X5 hx (y := (⟨"java/util/ArrayDeque", "dec", "(II)I"⟩ : MethodName)) hown (mvT hZ (hw _ (List.mem_of_getElem? (i := 40) rfl))) (mvT hZ (hw _ (List.mem_of_getElem? (i := 41) rfl))) (mvT hZ (hw _ (List.mem_of_getElem? (i := 11) rfl))) (mvT hZ (hw _ (List.mem_of_getElem? (i := 42) rfl))) (by decide) (backOf (W := 1) (own_rm7_2 l Z a0 hw []   h0 n0 (by omega) ) hZ (hw _ (List.mem_of_getElem? (i := 42) rfl)) (hw _ (List.mem_of_getElem? (i := 11) rfl)) (by decide) (by decide)) (g := (mkF m 12 #[.val (.ref a_1), .val (.ref ar), .unset] [(.int (17 : Int32)), (.int (2 : Int32)), (.ref ar)])) rfl (by rw [hml]; rfl) (argsL := [(.int (2 : Int32)), (.int (17 : Int32))]) (rest := [(.ref ar)]) (lenOf own_pd0 rfl) rfl (by show 2 * 0 + _ ≤ _; exact Nat.le_of_eq rfl) (hb hby own_d14_12) (fun _ _ => ⟨rfl, e5, (by decide : 0 + 0 ≤ _), (by decide : 0 + 0 ≤ _)⟩)
  dsimp only [Pt.U, Pt.locs, Pt.cells, Pt.slots] at X7 l7 y7 z7 st7 hQ7
  have y7 : k7 = 0 := y7
  have z7 : n7 = 0 := z7
  obtain ⟨rfl, N7q, e7⟩ := hQ7
  have N7 : Fr n0 L7 := by rw [l7]; exact Fr.app N0 N7q
  refine own_go (fun _ k => st7 _ k) ?_
  show own_Go _ _ _ _ T7 (mkF m 15 #[.val (.ref a_1), .val (.ref ar), .unset] [(.int (1 : Int32)), (.ref ar)])
  obtain ⟨_, _, ⟨T8, L8, k8, n8⟩, -, X8, ⟨Lc8, hQ8, l8, y8, z8⟩, st8⟩ := Jvm.LawKit.callS X7 hx (y := (⟨"java/util/ArrayDeque", "elementAt", "([Ljava/lang/Object;I)Ljava/lang/Object;"⟩ : MethodName)) hown (mvT hZ (hw _ (List.mem_of_getElem? (i := 43) rfl))) (mvT hZ (hw _ (List.mem_of_getElem? (i := 44) rfl))) (mvT hZ (hw _ (List.mem_of_getElem? (i := 11) rfl))) (mvT hZ (hw _ (List.mem_of_getElem? (i := 45) rfl))) (by decide) (backOf (W := 0) (own_rm8r1 l Z a0 hw [] ar g x h0 n0 (by omega) pr_A_ar hg1) hZ (hw _ (List.mem_of_getElem? (i := 45) rfl)) (hw _ (List.mem_of_getElem? (i := 11) rfl)) (by decide) (by decide)) (g := (mkF m 15 #[.val (.ref a_1), .val (.ref ar), .unset] [(.int (1 : Int32)), (.ref ar)])) rfl (by rw [hml]; rfl) (argsL := [(.ref ar), (.int (1 : Int32))]) (rest := []) (lenOf own_pd1 rfl) rfl (by show 2 * 0 + _ ≤ _; exact Nat.le_of_eq rfl) (hb hby own_d14_15) (fun _ _ => ⟨rfl, e7, (by show k7 + _ ≤ _; rw [y7]; decide), (by show n7 + _ ≤ _; rw [z7]; decide)⟩)
  dsimp only [Pt.U, Pt.locs, Pt.cells, Pt.slots] at X8 l8 y8 z8 st8 hQ8
  have y8 : k8 = 0 := own_addeq y8 (congrArg (fun q => q) y7) rfl
  have z8 : n8 = 0 := own_addeq z8 (congrArg (fun q => q) z7) rfl
  obtain ⟨rfl, N8q, e8⟩ := hQ8
  have N8 : Fr n0 L8 := by rw [l8]; exact Fr.app N7 N8q
  refine own_go (fun _ k => st8 _ k) ?_
  show own_Go _ _ _ _ T8 (mkF m 18 #[.val (.ref a_1), .val (.ref ar), .unset] [(.ref x)])
  refine own_go (fun _ k => XS.astoreN X8.here hx rfl (hb hby own_d14_18) rfl rfl (l' := #[.val (.ref a_1), .val (.ref ar), .val (.ref x)]) rfl k) ?_
  show own_Go _ _ _ _ T8 (mkF m 19 #[.val (.ref a_1), .val (.ref ar), .val (.ref x)] [])
  refine own_go (fun _ k => XS.aloadN X8.here hx rfl (hb hby own_d14_19) rfl rfl k) ?_
  show own_Go _ _ _ _ T8 (mkF m 20 #[.val (.ref a_1), .val (.ref ar), .val (.ref x)] [(.ref x)])
  refine own_go (fun _ k => XS.ifnonnullYes X8.here hx rfl (pc0 := 20) (pc' := 31) rfl (hb hby own_d14_20) rfl (by decide) (by decide) k) ?_
  show own_Go _ _ _ _ T8 (mkF m 31 #[.val (.ref a_1), .val (.ref ar), .val (.ref x)] [])
  refine own_go (fun _ k => XS.aloadN X8.here hx rfl (hb hby own_d14_31) rfl rfl k) ?_
  show own_Go _ _ _ _ T8 (mkF m 32 #[.val (.ref a_1), .val (.ref ar), .val (.ref x)] [(.ref x)])
  obtain ⟨fs, hr, hrun, hended, hW, hsame⟩ := X8.leave (v := some (.ref x)) (fun h => by rw [Bd.returns] at h; cases h)
  refine ⟨_, _, retOut X8 hx Bd.returns rfl (Or.inr (Or.inr (Or.inr (Or.inr ⟨rfl, rfl, rfl⟩)))) (hb hby own_d14_32) hr, hrun, hended, _, _, rfl, ?_, ⟨_, rfl⟩, hW, hsame.mono (by rw [y8]; decide) (by rw [z8]; decide)⟩
  show own_Q14_2 Z a_1 ar g x h0 n0 _ T8.heap _
  rw [e8]
  exact ⟨rfl, N8, rfl⟩
theorem own_d17_0 : decode jdk_21_method_22_code 0 = .ok (.aload_n 0, 1) := by decide +kernel
theorem own_d17_1 : decode jdk_21_method_22_code 1 = .ok (.getfield 3, 3) := by decide +kernel
theorem own_d17_4 : decode jdk_21_method_22_code 4 = .ok (.aload_n 0, 1) := by decide +kernel
theorem own_d17_5 : decode jdk_21_method_22_code 5 = .ok (.getfield 24, 3) := by decide +kernel
theorem own_d17_8 : decode jdk_21_method_22_code 8 = .ok (.invokestatic 103, 3) := by decide +kernel
theorem own_d17_11 : decode jdk_21_method_22_code 11 = .ok (.astore_n 1, 1) := by decide +kernel
theorem own_d17_12 : decode jdk_21_method_22_code 12 = .ok (.aload_n 1, 1) := by decide +kernel
theorem own_d17_13 : decode jdk_21_method_22_code 13 = .ok (.ifnonnull 11, 3) := by decide +kernel
theorem own_d17_24 : decode jdk_21_method_22_code 24 = .ok (.aload_n 1, 1) := by decide +kernel
theorem own_d17_25 : decode jdk_21_method_22_code 25 = .ok (.areturn, 1) := by decide +kernel
theorem own_ef_own_rm17_0 (m : MethodId) (x0 : Addr) : entryFrame m #[(.ref x0)] 2 = mkF m 0 #[.val (.ref x0), .unset] [] := by first | (simp [entryFrame, mkF, argsToLocals, Value.category]; done) | rfl
def own_Q17_0 (Z : State) (a_1 : Addr) (ar : Addr) (g : Nat → Value) (x : Addr) (h0 : Heap) (n0 : Nat) (v : Option Value) (h : Heap) (L : List Loc) : Prop := v = some (.ref x) ∧ Fr n0 L ∧ h = h0
set_option maxRecDepth 65536 in
set_option maxHeartbeats 40000000 in
theorem own_rm17_0 (l : Launch) (Z : State) (a0 : Array Value) (hw : ∀ d ∈ tables_1, d.before a0 Z = true) (ws : List Jvm.Cond) (a_1 : Addr) (ar : Addr) (g : Nat → Value) (x : Addr) (h0 : Heap) (n0 : Nat) (Z0 : n0 ≤ h0.size) (pr_F_a_1_elements : Fld Z h0 a_1 "java/util/ArrayDeque" "elements" "[Ljava/lang/Object;" (.ref ar)) (pr_F_a_1_head : Fld Z h0 a_1 "java/util/ArrayDeque" "head" "I" (.int (0 : Int32))) (pr_A_ar : own_AV Z h0 ar (.object "java/lang/Object") (17 : Int32) g) (hg0 : g 0 = .ref x) :
    MetFree l (⟨"java/util/ArrayDeque", "getFirst", "()Ljava/lang/Object;"⟩ : MethodName) (head1 (Jvm.Cond.code (⟨"java/util/ArrayDeque", "getFirst", "()Ljava/lang/Object;"⟩ : MethodName) jdk_21_method_22_code 2 (some (.object "java/lang/Object")) :: ws) ({ frames := 1, cells := 0, slots := 0, locals := 13 } : Room)) (fun a U => a = #[(.ref a_1)] ∧ Z.Warmed39 U.vm ∧ U.heap = h0) (fun _ _ _ _ _ => True) (fun _ U o U' => ∃ v L, o = .returned v ∧ own_Q17_0 Z a_1 ar g x h0 n0 v U'.heap L ∧ FrameEnd U o U' L ({ frames := 1, cells := 0, slots := 0, locals := 13 } : Room).cells ({ frames := 1, cells := 0, slots := 0, locals := 13 } : Room).slots) := by
  refine MetFree.of_bodySF (plainFor_of_name own_pn0) hisR ?_
  intro p e s m args below meth c s₁ Bd hml0 hP hK
  obtain ⟨rfl, hZ, hh⟩ := hP
  have hx := Bd.exec
  have hby := Bd.bytes
  have hml : c.maxLocals = 2 := hml0
  have hown : s.vm.findClass "java/util/ArrayDeque" = some m.cls := findClass_of_methodNamed Bd.named
  have hnm := (name_of_methodNamed Bd.named Bd.method).1
  have X0 : Stand p l e ({ frames := 1, cells := 0, slots := 0, locals := 13 } : Room) s m #[(.ref a_1)] below meth c s₁ [] 0 0 := Stand.of_body Bd
  have e0 : s₁.heap = h0 := by rw [← hh, Bd.state]; rfl
  have N0 := Fr.nil n0
  have z0 : n0 ≤ h0.size := Z0
  have z1 := own_lt pr_F_a_1_elements.lt
  have z2 := own_lt pr_F_a_1_head.lt
  have z3 := own_lt pr_A_ar.lt
  show own_Go p.tables e below (fun t o => t.status = .running ∧ Ended t below o ∧ ∃ v L, o = .returned v ∧ own_Q17_0 Z a_1 ar g x h0 n0 v t.heap L ∧ FrameEnd s o t L ({ frames := 1, cells := 0, slots := 0, locals := 13 } : Room).cells ({ frames := 1, cells := 0, slots := 0, locals := 13 } : Room).slots) s₁ (entryFrame m #[(.ref a_1)] 2)
  rw [own_ef_own_rm17_0 m a_1]
  show own_Go _ _ _ _ s₁ (mkF m 0 #[.val (.ref a_1), .unset] [])
  refine own_go (fun _ k => XS.aloadN X0.here hx rfl (hb hby own_d17_0) rfl rfl k) ?_
  show own_Go _ _ _ _ s₁ (mkF m 1 #[.val (.ref a_1), .unset] [(.ref a_1)])
  obtain ⟨T4, X4, e4, st4⟩ := getF X0 hx hZ hown (host := "") (Or.inl (hw _ (List.mem_of_getElem? (i := 24) rfl))) Via.refl e0 pr_F_a_1_elements (g := (mkF m 1 #[.val (.ref a_1), .unset] [(.ref a_1)])) rfl rfl (hb hby own_d17_1)
  refine own_go (fun _ k => st4 _ k) ?_
  show own_Go _ _ _ _ T4 (mkF m 4 #[.val (.ref a_1), .unset] [(.ref ar)])
  refine own_go (fun _ k => XS.aloadN X4.here hx rfl (hb hby own_d17_4) rfl rfl k) ?_
  show own_Go _ _ _ _ T4 (mkF m 5 #[.val (.ref a_1), .unset] [(.ref a_1), (.ref ar)])
  obtain ⟨T5, X5, e5, st5⟩ := getF X4 hx hZ hown (host := "") (Or.inl (hw _ (List.mem_of_getElem? (i := 71) rfl))) Via.refl e4 pr_F_a_1_head (g := (mkF m 5 #[.val (.ref a_1), .unset] [(.ref a_1), (.ref ar)])) rfl rfl (hb hby own_d17_5)
  refine own_go (fun _ k => st5 _ k) ?_
  show own_Go _ _ _ _ T5 (mkF m 8 #[.val (.ref a_1), .unset] [(.int (0 : Int32)), (.ref ar)])
  obtain ⟨_, _, ⟨T6, L6, k6, n6⟩, -, X6, ⟨Lc6, hQ6, l6, y6, z6⟩, st6⟩ := Jvm.LawKit.callS X5 hx (y := (⟨"java/util/ArrayDeque", "elementAt", "([Ljava/lang/Object;I)Ljava/lang/Object;"⟩ : MethodName)) hown (mvT hZ (hw _ (List.mem_of_getElem? (i := 43) rfl))) (mvT hZ (hw _ (List.mem_of_getElem? (i := 44) rfl))) (mvT hZ (hw _ (List.mem_of_getElem? (i := 11) rfl))) (mvT hZ (hw _ (List.mem_of_getElem? (i := 45) rfl))) (by decide) (backOf (W := 0) (own_rm8r0 l Z a0 hw [] ar g x h0 n0 (by omega) pr_A_ar hg0) hZ (hw _ (List.mem_of_getElem? (i := 45) rfl)) (hw _ (List.mem_of_getElem? (i := 11) rfl)) (by decide) (by decide)) (g := (mkF m 8 #[.val (.ref a_1), .unset] [(.int (0 : Int32)), (.ref ar)])) rfl (by rw [hml]; rfl) (argsL := [(.ref ar), (.int (0 : Int32))]) (rest := []) (lenOf own_pd1 rfl) rfl (by show 2 * 0 + _ ≤ _; exact Nat.le_of_eq rfl) (hb hby own_d17_8) (fun _ _ => ⟨rfl, e5, (by decide : 0 + 0 ≤ _), (by decide : 0 + 0 ≤ _)⟩)
  dsimp only [Pt.U, Pt.locs, Pt.cells, Pt.slots] at X6 l6 y6 z6 st6 hQ6
  have y6 : k6 = 0 := y6
  have z6 : n6 = 0 := z6
  obtain ⟨rfl, N6q, e6⟩ := hQ6
  have N6 : Fr n0 L6 := by rw [l6]; exact Fr.app N0 N6q
  refine own_go (fun _ k => st6 _ k) ?_
  show own_Go _ _ _ _ T6 (mkF m 11 #[.val (.ref a_1), .unset] [(.ref x)])
  refine own_go (fun _ k => XS.astoreN X6.here hx rfl (hb hby own_d17_11) rfl rfl (l' := #[.val (.ref a_1), .val (.ref x)]) rfl k) ?_
  show own_Go _ _ _ _ T6 (mkF m 12 #[.val (.ref a_1), .val (.ref x)] [])
  refine own_go (fun _ k => XS.aloadN X6.here hx rfl (hb hby own_d17_12) rfl rfl k) ?_
  show own_Go _ _ _ _ T6 (mkF m 13 #[.val (.ref a_1), .val (.ref x)] [(.ref x)])
  refine own_go (fun _ k => XS.ifnonnullYes X6.here hx rfl (pc0 := 13) (pc' := 24) rfl (hb hby own_d17_13) rfl (by decide) (by decide) k) ?_
  show own_Go _ _ _ _ T6 (mkF m 24 #[.val (.ref a_1), .val (.ref x)] [])
  refine own_go (fun _ k => XS.aloadN X6.here hx rfl (hb hby own_d17_24) rfl rfl k) ?_
  show own_Go _ _ _ _ T6 (mkF m 25 #[.val (.ref a_1), .val (.ref x)] [(.ref x)])
  obtain ⟨fs, hr, hrun, hended, hW, hsame⟩ := X6.leave (v := some (.ref x)) (fun h => by rw [Bd.returns] at h; cases h)
  refine ⟨_, _, retOut X6 hx Bd.returns rfl (Or.inr (Or.inr (Or.inr (Or.inr ⟨rfl, rfl, rfl⟩)))) (hb hby own_d17_25) hr, hrun, hended, _, _, rfl, ?_, ⟨_, rfl⟩, hW, hsame.mono (by rw [y6]; decide) (by rw [z6]; decide)⟩
  show own_Q17_0 Z a_1 ar g x h0 n0 _ T6.heap _
  rw [e6]
  exact ⟨rfl, N6, rfl⟩
theorem own_ef_own_rm17_1 (m : MethodId) (x0 : Addr) : entryFrame m #[(.ref x0)] 2 = mkF m 0 #[.val (.ref x0), .unset] [] := by first | (simp [entryFrame, mkF, argsToLocals, Value.category]; done) | rfl
def own_Q17_1 (Z : State) (a_1 : Addr) (ar : Addr) (g : Nat → Value) (x : Addr) (h0 : Heap) (n0 : Nat) (v : Option Value) (h : Heap) (L : List Loc) : Prop := v = some (.ref x) ∧ Fr n0 L ∧ h = h0
set_option maxRecDepth 65536 in
set_option maxHeartbeats 40000000 in
theorem own_rm17_1 (l : Launch) (Z : State) (a0 : Array Value) (hw : ∀ d ∈ tables_1, d.before a0 Z = true) (ws : List Jvm.Cond) (a_1 : Addr) (ar : Addr) (g : Nat → Value) (x : Addr) (h0 : Heap) (n0 : Nat) (Z0 : n0 ≤ h0.size) (pr_F_a_1_elements : Fld Z h0 a_1 "java/util/ArrayDeque" "elements" "[Ljava/lang/Object;" (.ref ar)) (pr_F_a_1_head : Fld Z h0 a_1 "java/util/ArrayDeque" "head" "I" (.int (1 : Int32))) (pr_A_ar : own_AV Z h0 ar (.object "java/lang/Object") (17 : Int32) g) (hg1 : g 1 = .ref x) :
    MetFree l (⟨"java/util/ArrayDeque", "getFirst", "()Ljava/lang/Object;"⟩ : MethodName) (head1 (Jvm.Cond.code (⟨"java/util/ArrayDeque", "getFirst", "()Ljava/lang/Object;"⟩ : MethodName) jdk_21_method_22_code 2 (some (.object "java/lang/Object")) :: ws) ({ frames := 1, cells := 0, slots := 0, locals := 13 } : Room)) (fun a U => a = #[(.ref a_1)] ∧ Z.Warmed39 U.vm ∧ U.heap = h0) (fun _ _ _ _ _ => True) (fun _ U o U' => ∃ v L, o = .returned v ∧ own_Q17_1 Z a_1 ar g x h0 n0 v U'.heap L ∧ FrameEnd U o U' L ({ frames := 1, cells := 0, slots := 0, locals := 13 } : Room).cells ({ frames := 1, cells := 0, slots := 0, locals := 13 } : Room).slots) := by
  refine MetFree.of_bodySF (plainFor_of_name own_pn0) hisR ?_
  intro p e s m args below meth c s₁ Bd hml0 hP hK
  obtain ⟨rfl, hZ, hh⟩ := hP
  have hx := Bd.exec
  have hby := Bd.bytes
  have hml : c.maxLocals = 2 := hml0
  have hown : s.vm.findClass "java/util/ArrayDeque" = some m.cls := findClass_of_methodNamed Bd.named
  have hnm := (name_of_methodNamed Bd.named Bd.method).1
  have X0 : Stand p l e ({ frames := 1, cells := 0, slots := 0, locals := 13 } : Room) s m #[(.ref a_1)] below meth c s₁ [] 0 0 := Stand.of_body Bd
  have e0 : s₁.heap = h0 := by rw [← hh, Bd.state]; rfl
  have N0 := Fr.nil n0
  have z0 : n0 ≤ h0.size := Z0
  have z1 := own_lt pr_F_a_1_elements.lt
  have z2 := own_lt pr_F_a_1_head.lt
  have z3 := own_lt pr_A_ar.lt
  show own_Go p.tables e below (fun t o => t.status = .running ∧ Ended t below o ∧ ∃ v L, o = .returned v ∧ own_Q17_1 Z a_1 ar g x h0 n0 v t.heap L ∧ FrameEnd s o t L ({ frames := 1, cells := 0, slots := 0, locals := 13 } : Room).cells ({ frames := 1, cells := 0, slots := 0, locals := 13 } : Room).slots) s₁ (entryFrame m #[(.ref a_1)] 2)
  rw [own_ef_own_rm17_1 m a_1]
  show own_Go _ _ _ _ s₁ (mkF m 0 #[.val (.ref a_1), .unset] [])
  refine own_go (fun _ k => XS.aloadN X0.here hx rfl (hb hby own_d17_0) rfl rfl k) ?_
  show own_Go _ _ _ _ s₁ (mkF m 1 #[.val (.ref a_1), .unset] [(.ref a_1)])
  obtain ⟨T4, X4, e4, st4⟩ := getF X0 hx hZ hown (host := "") (Or.inl (hw _ (List.mem_of_getElem? (i := 24) rfl))) Via.refl e0 pr_F_a_1_elements (g := (mkF m 1 #[.val (.ref a_1), .unset] [(.ref a_1)])) rfl rfl (hb hby own_d17_1)
  refine own_go (fun _ k => st4 _ k) ?_
  show own_Go _ _ _ _ T4 (mkF m 4 #[.val (.ref a_1), .unset] [(.ref ar)])
  refine own_go (fun _ k => XS.aloadN X4.here hx rfl (hb hby own_d17_4) rfl rfl k) ?_
  show own_Go _ _ _ _ T4 (mkF m 5 #[.val (.ref a_1), .unset] [(.ref a_1), (.ref ar)])
  obtain ⟨T5, X5, e5, st5⟩ := getF X4 hx hZ hown (host := "") (Or.inl (hw _ (List.mem_of_getElem? (i := 71) rfl))) Via.refl e4 pr_F_a_1_head (g := (mkF m 5 #[.val (.ref a_1), .unset] [(.ref a_1), (.ref ar)])) rfl rfl (hb hby own_d17_5)
  refine own_go (fun _ k => st5 _ k) ?_
  show own_Go _ _ _ _ T5 (mkF m 8 #[.val (.ref a_1), .unset] [(.int (1 : Int32)), (.ref ar)])
  obtain ⟨_, _, ⟨T6, L6, k6, n6⟩, -, X6, ⟨Lc6, hQ6, l6, y6, z6⟩, st6⟩ := Jvm.LawKit.callS X5 hx (y := (⟨"java/util/ArrayDeque", "elementAt", "([Ljava/lang/Object;I)Ljava/lang/Object;"⟩ : MethodName)) hown (mvT hZ (hw _ (List.mem_of_getElem? (i := 43) rfl))) (mvT hZ (hw _ (List.mem_of_getElem? (i := 44) rfl))) (mvT hZ (hw _ (List.mem_of_getElem? (i := 11) rfl))) (mvT hZ (hw _ (List.mem_of_getElem? (i := 45) rfl))) (by decide) (backOf (W := 0) (own_rm8r1 l Z a0 hw [] ar g x h0 n0 (by omega) pr_A_ar hg1) hZ (hw _ (List.mem_of_getElem? (i := 45) rfl)) (hw _ (List.mem_of_getElem? (i := 11) rfl)) (by decide) (by decide)) (g := (mkF m 8 #[.val (.ref a_1), .unset] [(.int (1 : Int32)), (.ref ar)])) rfl (by rw [hml]; rfl) (argsL := [(.ref ar), (.int (1 : Int32))]) (rest := []) (lenOf own_pd1 rfl) rfl (by show 2 * 0 + _ ≤ _; exact Nat.le_of_eq rfl) (hb hby own_d17_8) (fun _ _ => ⟨rfl, e5, (by decide : 0 + 0 ≤ _), (by decide : 0 + 0 ≤ _)⟩)
  dsimp only [Pt.U, Pt.locs, Pt.cells, Pt.slots] at X6 l6 y6 z6 st6 hQ6
  have y6 : k6 = 0 := y6
  have z6 : n6 = 0 := z6
  obtain ⟨rfl, N6q, e6⟩ := hQ6
  have N6 : Fr n0 L6 := by rw [l6]; exact Fr.app N0 N6q
  refine own_go (fun _ k => st6 _ k) ?_
  show own_Go _ _ _ _ T6 (mkF m 11 #[.val (.ref a_1), .unset] [(.ref x)])
  refine own_go (fun _ k => XS.astoreN X6.here hx rfl (hb hby own_d17_11) rfl rfl (l' := #[.val (.ref a_1), .val (.ref x)]) rfl k) ?_
  show own_Go _ _ _ _ T6 (mkF m 12 #[.val (.ref a_1), .val (.ref x)] [])
  refine own_go (fun _ k => XS.aloadN X6.here hx rfl (hb hby own_d17_12) rfl rfl k) ?_
  show own_Go _ _ _ _ T6 (mkF m 13 #[.val (.ref a_1), .val (.ref x)] [(.ref x)])
  refine own_go (fun _ k => XS.ifnonnullYes X6.here hx rfl (pc0 := 13) (pc' := 24) rfl (hb hby own_d17_13) rfl (by decide) (by decide) k) ?_
  show own_Go _ _ _ _ T6 (mkF m 24 #[.val (.ref a_1), .val (.ref x)] [])
  refine own_go (fun _ k => XS.aloadN X6.here hx rfl (hb hby own_d17_24) rfl rfl k) ?_
  show own_Go _ _ _ _ T6 (mkF m 25 #[.val (.ref a_1), .val (.ref x)] [(.ref x)])
  obtain ⟨fs, hr, hrun, hended, hW, hsame⟩ := X6.leave (v := some (.ref x)) (fun h => by rw [Bd.returns] at h; cases h)
  refine ⟨_, _, retOut X6 hx Bd.returns rfl (Or.inr (Or.inr (Or.inr (Or.inr ⟨rfl, rfl, rfl⟩)))) (hb hby own_d17_25) hr, hrun, hended, _, _, rfl, ?_, ⟨_, rfl⟩, hW, hsame.mono (by rw [y6]; decide) (by rw [z6]; decide)⟩
  show own_Q17_1 Z a_1 ar g x h0 n0 _ T6.heap _
  rw [e6]
  exact ⟨rfl, N6, rfl⟩
theorem own_d16_0 : decode jdk_21_method_38_code 0 = .ok (.aload_n 0, 1) := by decide +kernel
theorem own_d16_1 : decode jdk_21_method_38_code 1 = .ok (.getfield 24, 3) := by decide +kernel
theorem own_d16_4 : decode jdk_21_method_38_code 4 = .ok (.aload_n 0, 1) := by decide +kernel
theorem own_d16_5 : decode jdk_21_method_38_code 5 = .ok (.getfield 20, 3) := by decide +kernel
theorem own_d16_8 : decode jdk_21_method_38_code 8 = .ok (.if_icmp .ne 7, 3) := by decide +kernel
theorem own_d16_15 : decode jdk_21_method_38_code 15 = .ok (.iconst 0, 1) := by decide +kernel
theorem own_d16_16 : decode jdk_21_method_38_code 16 = .ok (.ireturn, 1) := by decide +kernel
theorem own_ef_own_rm16_01 (m : MethodId) (x0 : Addr) : entryFrame m #[(.ref x0)] 1 = mkF m 0 #[.val (.ref x0)] [] := by first | (simp [entryFrame, mkF, argsToLocals, Value.category]; done) | rfl
def own_Q16_01 (Z : State) (a_1 : Addr) (h0 : Heap) (n0 : Nat) (v : Option Value) (h : Heap) (L : List Loc) : Prop := v = some (.int (0 : Int32)) ∧ Fr n0 L ∧ h = h0
set_option maxRecDepth 65536 in
set_option maxHeartbeats 40000000 in
theorem own_rm16_01 (l : Launch) (Z : State) (a0 : Array Value) (hw : ∀ d ∈ tables_1, d.before a0 Z = true) (ws : List Jvm.Cond) (a_1 : Addr) (h0 : Heap) (n0 : Nat) (Z0 : n0 ≤ h0.size) (pr_F_a_1_head : Fld Z h0 a_1 "java/util/ArrayDeque" "head" "I" (.int (0 : Int32))) (pr_F_a_1_tail : Fld Z h0 a_1 "java/util/ArrayDeque" "tail" "I" (.int (1 : Int32))) :
    MetFree l (⟨"java/util/ArrayDeque", "isEmpty", "()Z"⟩ : MethodName) (head1 (Jvm.Cond.code (⟨"java/util/ArrayDeque", "isEmpty", "()Z"⟩ : MethodName) jdk_21_method_38_code 1 (some .boolean) :: ws) ({ frames := 0, cells := 0, slots := 0, locals := 0 } : Room)) (fun a U => a = #[(.ref a_1)] ∧ Z.Warmed39 U.vm ∧ U.heap = h0) (fun _ _ _ _ _ => True) (fun _ U o U' => ∃ v L, o = .returned v ∧ own_Q16_01 Z a_1 h0 n0 v U'.heap L ∧ FrameEnd U o U' L ({ frames := 0, cells := 0, slots := 0, locals := 0 } : Room).cells ({ frames := 0, cells := 0, slots := 0, locals := 0 } : Room).slots) := by
  refine MetFree.of_bodySF (plainFor_of_name own_pn0) hisR ?_
  intro p e s m args below meth c s₁ Bd hml0 hP hK
  obtain ⟨rfl, hZ, hh⟩ := hP
  have hx := Bd.exec
  have hby := Bd.bytes
  have hml : c.maxLocals = 1 := hml0
  have hown : s.vm.findClass "java/util/ArrayDeque" = some m.cls := findClass_of_methodNamed Bd.named
  have hnm := (name_of_methodNamed Bd.named Bd.method).1
  have X0 : Stand p l e ({ frames := 0, cells := 0, slots := 0, locals := 0 } : Room) s m #[(.ref a_1)] below meth c s₁ [] 0 0 := Stand.of_body Bd
  have e0 : s₁.heap = h0 := by rw [← hh, Bd.state]; rfl
  have N0 := Fr.nil n0
  have z0 : n0 ≤ h0.size := Z0
  have z1 := own_lt pr_F_a_1_head.lt
  have z2 := own_lt pr_F_a_1_tail.lt
  show own_Go p.tables e below (fun t o => t.status = .running ∧ Ended t below o ∧ ∃ v L, o = .returned v ∧ own_Q16_01 Z a_1 h0 n0 v t.heap L ∧ FrameEnd s o t L ({ frames := 0, cells := 0, slots := 0, locals := 0 } : Room).cells ({ frames := 0, cells := 0, slots := 0, locals := 0 } : Room).slots) s₁ (entryFrame m #[(.ref a_1)] 1)
  rw [own_ef_own_rm16_01 m a_1]
  show own_Go _ _ _ _ s₁ (mkF m 0 #[.val (.ref a_1)] [])
  refine own_go (fun _ k => XS.aloadN X0.here hx rfl (hb hby own_d16_0) rfl rfl k) ?_
  show own_Go _ _ _ _ s₁ (mkF m 1 #[.val (.ref a_1)] [(.ref a_1)])
  obtain ⟨T3, X3, e3, st3⟩ := getF X0 hx hZ hown (host := "") (Or.inl (hw _ (List.mem_of_getElem? (i := 71) rfl))) Via.refl e0 pr_F_a_1_head (g := (mkF m 1 #[.val (.ref a_1)] [(.ref a_1)])) rfl rfl (hb hby own_d16_1)
  refine own_go (fun _ k => st3 _ k) ?_
  show own_Go _ _ _ _ T3 (mkF m 4 #[.val (.ref a_1)] [(.int (0 : Int32))])
  refine own_go (fun _ k => XS.aloadN X3.here hx rfl (hb hby own_d16_4) rfl rfl k) ?_
  show own_Go _ _ _ _ T3 (mkF m 5 #[.val (.ref a_1)] [(.ref a_1), (.int (0 : Int32))])
  obtain ⟨T4, X4, e4, st4⟩ := getF X3 hx hZ hown (host := "") (Or.inl (hw _ (List.mem_of_getElem? (i := 38) rfl))) Via.refl e3 pr_F_a_1_tail (g := (mkF m 5 #[.val (.ref a_1)] [(.ref a_1), (.int (0 : Int32))])) rfl rfl (hb hby own_d16_5)
  refine own_go (fun _ k => st4 _ k) ?_
  show own_Go _ _ _ _ T4 (mkF m 8 #[.val (.ref a_1)] [(.int (1 : Int32)), (.int (0 : Int32))])
  have hc5 : ¬ ((0 : Int32) = (1 : Int32)) := by decide
  refine own_go (fun _ k => XS.icmpYes X4.here hx rfl (pc0 := 8) (pc' := 15) rfl (hb hby own_d16_8) rfl (Jvm.Free.XT.ii_ne_t hc5) (by decide) (by decide) k) ?_
  show own_Go _ _ _ _ T4 (mkF m 15 #[.val (.ref a_1)] [])
  refine own_go (fun _ k => XS.iconst X4.here hx rfl (hb hby own_d16_15) k) ?_
  show own_Go _ _ _ _ T4 (mkF m 16 #[.val (.ref a_1)] [(.int (0 : Int32))])
  obtain ⟨fs, hr, hrun, hended, hW, hsame⟩ := X4.leave (v := some (.int (0 : Int32))) (fun h => by rw [Bd.returns] at h; cases h)
  refine ⟨_, _, retOut X4 hx Bd.returns rfl (Or.inl ⟨rfl, Or.inr (Or.inl rfl), _, rfl⟩) (hb hby own_d16_16) hr, hrun, hended, _, _, rfl, ?_, ⟨_, rfl⟩, hW, hsame.mono (by decide) (by decide)⟩
  show own_Q16_01 Z a_1 h0 n0 _ T4.heap _
  rw [e4]
  exact ⟨rfl, N0, rfl⟩
theorem own_d16_11 : decode jdk_21_method_38_code 11 = .ok (.iconst 1, 1) := by decide +kernel
theorem own_d16_12 : decode jdk_21_method_38_code 12 = .ok (.goto 4, 3) := by decide +kernel
theorem own_ef_own_rm16_11 (m : MethodId) (x0 : Addr) : entryFrame m #[(.ref x0)] 1 = mkF m 0 #[.val (.ref x0)] [] := by first | (simp [entryFrame, mkF, argsToLocals, Value.category]; done) | rfl
def own_Q16_11 (Z : State) (a_1 : Addr) (h0 : Heap) (n0 : Nat) (v : Option Value) (h : Heap) (L : List Loc) : Prop := v = some (.int (1 : Int32)) ∧ Fr n0 L ∧ h = h0
set_option maxRecDepth 65536 in
set_option maxHeartbeats 40000000 in
theorem own_rm16_11 (l : Launch) (Z : State) (a0 : Array Value) (hw : ∀ d ∈ tables_1, d.before a0 Z = true) (ws : List Jvm.Cond) (a_1 : Addr) (h0 : Heap) (n0 : Nat) (Z0 : n0 ≤ h0.size) (pr_F_a_1_head : Fld Z h0 a_1 "java/util/ArrayDeque" "head" "I" (.int (1 : Int32))) (pr_F_a_1_tail : Fld Z h0 a_1 "java/util/ArrayDeque" "tail" "I" (.int (1 : Int32))) :
    MetFree l (⟨"java/util/ArrayDeque", "isEmpty", "()Z"⟩ : MethodName) (head1 (Jvm.Cond.code (⟨"java/util/ArrayDeque", "isEmpty", "()Z"⟩ : MethodName) jdk_21_method_38_code 1 (some .boolean) :: ws) ({ frames := 0, cells := 0, slots := 0, locals := 0 } : Room)) (fun a U => a = #[(.ref a_1)] ∧ Z.Warmed39 U.vm ∧ U.heap = h0) (fun _ _ _ _ _ => True) (fun _ U o U' => ∃ v L, o = .returned v ∧ own_Q16_11 Z a_1 h0 n0 v U'.heap L ∧ FrameEnd U o U' L ({ frames := 0, cells := 0, slots := 0, locals := 0 } : Room).cells ({ frames := 0, cells := 0, slots := 0, locals := 0 } : Room).slots) := by
  refine MetFree.of_bodySF (plainFor_of_name own_pn0) hisR ?_
  intro p e s m args below meth c s₁ Bd hml0 hP hK
  obtain ⟨rfl, hZ, hh⟩ := hP
  have hx := Bd.exec
  have hby := Bd.bytes
  have hml : c.maxLocals = 1 := hml0
  have hown : s.vm.findClass "java/util/ArrayDeque" = some m.cls := findClass_of_methodNamed Bd.named
  have hnm := (name_of_methodNamed Bd.named Bd.method).1
  have X0 : Stand p l e ({ frames := 0, cells := 0, slots := 0, locals := 0 } : Room) s m #[(.ref a_1)] below meth c s₁ [] 0 0 := Stand.of_body Bd
  have e0 : s₁.heap = h0 := by rw [← hh, Bd.state]; rfl
  have N0 := Fr.nil n0
  have z0 : n0 ≤ h0.size := Z0
  have z1 := own_lt pr_F_a_1_head.lt
  have z2 := own_lt pr_F_a_1_tail.lt
  show own_Go p.tables e below (fun t o => t.status = .running ∧ Ended t below o ∧ ∃ v L, o = .returned v ∧ own_Q16_11 Z a_1 h0 n0 v t.heap L ∧ FrameEnd s o t L ({ frames := 0, cells := 0, slots := 0, locals := 0 } : Room).cells ({ frames := 0, cells := 0, slots := 0, locals := 0 } : Room).slots) s₁ (entryFrame m #[(.ref a_1)] 1)
  rw [own_ef_own_rm16_11 m a_1]
  show own_Go _ _ _ _ s₁ (mkF m 0 #[.val (.ref a_1)] [])
  refine own_go (fun _ k => XS.aloadN X0.here hx rfl (hb hby own_d16_0) rfl rfl k) ?_
  show own_Go _ _ _ _ s₁ (mkF m 1 #[.val (.ref a_1)] [(.ref a_1)])
  obtain ⟨T3, X3, e3, st3⟩ := getF X0 hx hZ hown (host := "") (Or.inl (hw _ (List.mem_of_getElem? (i := 71) rfl))) Via.refl e0 pr_F_a_1_head (g := (mkF m 1 #[.val (.ref a_1)] [(.ref a_1)])) rfl rfl (hb hby own_d16_1)
  refine own_go (fun _ k => st3 _ k) ?_
  show own_Go _ _ _ _ T3 (mkF m 4 #[.val (.ref a_1)] [(.int (1 : Int32))])
  refine own_go (fun _ k => XS.aloadN X3.here hx rfl (hb hby own_d16_4) rfl rfl k) ?_
  show own_Go _ _ _ _ T3 (mkF m 5 #[.val (.ref a_1)] [(.ref a_1), (.int (1 : Int32))])
  obtain ⟨T4, X4, e4, st4⟩ := getF X3 hx hZ hown (host := "") (Or.inl (hw _ (List.mem_of_getElem? (i := 38) rfl))) Via.refl e3 pr_F_a_1_tail (g := (mkF m 5 #[.val (.ref a_1)] [(.ref a_1), (.int (1 : Int32))])) rfl rfl (hb hby own_d16_5)
  refine own_go (fun _ k => st4 _ k) ?_
  show own_Go _ _ _ _ T4 (mkF m 8 #[.val (.ref a_1)] [(.int (1 : Int32)), (.int (1 : Int32))])
  have hc5 : (1 : Int32) = (1 : Int32) := by decide
  refine own_go (fun _ k => XS.icmpNo X4.here hx rfl (hb hby own_d16_8) rfl (Jvm.Free.XT.ii_ne_f hc5) k) ?_
  show own_Go _ _ _ _ T4 (mkF m 11 #[.val (.ref a_1)] [])
  refine own_go (fun _ k => XS.iconst X4.here hx rfl (hb hby own_d16_11) k) ?_
  show own_Go _ _ _ _ T4 (mkF m 12 #[.val (.ref a_1)] [(.int (1 : Int32))])
  refine own_go (fun _ k => XS.goto X4.here hx rfl (pc0 := 12) (pc' := 16) rfl (hb hby own_d16_12) (by decide) (by decide) k) ?_
  show own_Go _ _ _ _ T4 (mkF m 16 #[.val (.ref a_1)] [(.int (1 : Int32))])
  obtain ⟨fs, hr, hrun, hended, hW, hsame⟩ := X4.leave (v := some (.int (1 : Int32))) (fun h => by rw [Bd.returns] at h; cases h)
  refine ⟨_, _, retOut X4 hx Bd.returns rfl (Or.inl ⟨rfl, Or.inr (Or.inl rfl), _, rfl⟩) (hb hby own_d16_16) hr, hrun, hended, _, _, rfl, ?_, ⟨_, rfl⟩, hW, hsame.mono (by decide) (by decide)⟩
  show own_Q16_11 Z a_1 h0 n0 _ T4.heap _
  rw [e4]
  exact ⟨rfl, N0, rfl⟩
theorem own_ef_own_rm16_12 (m : MethodId) (x0 : Addr) : entryFrame m #[(.ref x0)] 1 = mkF m 0 #[.val (.ref x0)] [] := by first | (simp [entryFrame, mkF, argsToLocals, Value.category]; done) | rfl
def own_Q16_12 (Z : State) (a_1 : Addr) (h0 : Heap) (n0 : Nat) (v : Option Value) (h : Heap) (L : List Loc) : Prop := v = some (.int (0 : Int32)) ∧ Fr n0 L ∧ h = h0
set_option maxRecDepth 65536 in
set_option maxHeartbeats 40000000 in
theorem own_rm16_12 (l : Launch) (Z : State) (a0 : Array Value) (hw : ∀ d ∈ tables_1, d.before a0 Z = true) (ws : List Jvm.Cond) (a_1 : Addr) (h0 : Heap) (n0 : Nat) (Z0 : n0 ≤ h0.size) (pr_F_a_1_head : Fld Z h0 a_1 "java/util/ArrayDeque" "head" "I" (.int (1 : Int32))) (pr_F_a_1_tail : Fld Z h0 a_1 "java/util/ArrayDeque" "tail" "I" (.int (2 : Int32))) :
    MetFree l (⟨"java/util/ArrayDeque", "isEmpty", "()Z"⟩ : MethodName) (head1 (Jvm.Cond.code (⟨"java/util/ArrayDeque", "isEmpty", "()Z"⟩ : MethodName) jdk_21_method_38_code 1 (some .boolean) :: ws) ({ frames := 0, cells := 0, slots := 0, locals := 0 } : Room)) (fun a U => a = #[(.ref a_1)] ∧ Z.Warmed39 U.vm ∧ U.heap = h0) (fun _ _ _ _ _ => True) (fun _ U o U' => ∃ v L, o = .returned v ∧ own_Q16_12 Z a_1 h0 n0 v U'.heap L ∧ FrameEnd U o U' L ({ frames := 0, cells := 0, slots := 0, locals := 0 } : Room).cells ({ frames := 0, cells := 0, slots := 0, locals := 0 } : Room).slots) := by
  refine MetFree.of_bodySF (plainFor_of_name own_pn0) hisR ?_
  intro p e s m args below meth c s₁ Bd hml0 hP hK
  obtain ⟨rfl, hZ, hh⟩ := hP
  have hx := Bd.exec
  have hby := Bd.bytes
  have hml : c.maxLocals = 1 := hml0
  have hown : s.vm.findClass "java/util/ArrayDeque" = some m.cls := findClass_of_methodNamed Bd.named
  have hnm := (name_of_methodNamed Bd.named Bd.method).1
  have X0 : Stand p l e ({ frames := 0, cells := 0, slots := 0, locals := 0 } : Room) s m #[(.ref a_1)] below meth c s₁ [] 0 0 := Stand.of_body Bd
  have e0 : s₁.heap = h0 := by rw [← hh, Bd.state]; rfl
  have N0 := Fr.nil n0
  have z0 : n0 ≤ h0.size := Z0
  have z1 := own_lt pr_F_a_1_head.lt
  have z2 := own_lt pr_F_a_1_tail.lt
  show own_Go p.tables e below (fun t o => t.status = .running ∧ Ended t below o ∧ ∃ v L, o = .returned v ∧ own_Q16_12 Z a_1 h0 n0 v t.heap L ∧ FrameEnd s o t L ({ frames := 0, cells := 0, slots := 0, locals := 0 } : Room).cells ({ frames := 0, cells := 0, slots := 0, locals := 0 } : Room).slots) s₁ (entryFrame m #[(.ref a_1)] 1)
  rw [own_ef_own_rm16_12 m a_1]
  show own_Go _ _ _ _ s₁ (mkF m 0 #[.val (.ref a_1)] [])
  refine own_go (fun _ k => XS.aloadN X0.here hx rfl (hb hby own_d16_0) rfl rfl k) ?_
  show own_Go _ _ _ _ s₁ (mkF m 1 #[.val (.ref a_1)] [(.ref a_1)])
  obtain ⟨T3, X3, e3, st3⟩ := getF X0 hx hZ hown (host := "") (Or.inl (hw _ (List.mem_of_getElem? (i := 71) rfl))) Via.refl e0 pr_F_a_1_head (g := (mkF m 1 #[.val (.ref a_1)] [(.ref a_1)])) rfl rfl (hb hby own_d16_1)
  refine own_go (fun _ k => st3 _ k) ?_
  show own_Go _ _ _ _ T3 (mkF m 4 #[.val (.ref a_1)] [(.int (1 : Int32))])
  refine own_go (fun _ k => XS.aloadN X3.here hx rfl (hb hby own_d16_4) rfl rfl k) ?_
  show own_Go _ _ _ _ T3 (mkF m 5 #[.val (.ref a_1)] [(.ref a_1), (.int (1 : Int32))])
  obtain ⟨T4, X4, e4, st4⟩ := getF X3 hx hZ hown (host := "") (Or.inl (hw _ (List.mem_of_getElem? (i := 38) rfl))) Via.refl e3 pr_F_a_1_tail (g := (mkF m 5 #[.val (.ref a_1)] [(.ref a_1), (.int (1 : Int32))])) rfl rfl (hb hby own_d16_5)
  refine own_go (fun _ k => st4 _ k) ?_
  show own_Go _ _ _ _ T4 (mkF m 8 #[.val (.ref a_1)] [(.int (2 : Int32)), (.int (1 : Int32))])
  have hc5 : ¬ ((1 : Int32) = (2 : Int32)) := by decide
  refine own_go (fun _ k => XS.icmpYes X4.here hx rfl (pc0 := 8) (pc' := 15) rfl (hb hby own_d16_8) rfl (Jvm.Free.XT.ii_ne_t hc5) (by decide) (by decide) k) ?_
  show own_Go _ _ _ _ T4 (mkF m 15 #[.val (.ref a_1)] [])
  refine own_go (fun _ k => XS.iconst X4.here hx rfl (hb hby own_d16_15) k) ?_
  show own_Go _ _ _ _ T4 (mkF m 16 #[.val (.ref a_1)] [(.int (0 : Int32))])
  obtain ⟨fs, hr, hrun, hended, hW, hsame⟩ := X4.leave (v := some (.int (0 : Int32))) (fun h => by rw [Bd.returns] at h; cases h)
  refine ⟨_, _, retOut X4 hx Bd.returns rfl (Or.inl ⟨rfl, Or.inr (Or.inl rfl), _, rfl⟩) (hb hby own_d16_16) hr, hrun, hended, _, _, rfl, ?_, ⟨_, rfl⟩, hW, hsame.mono (by decide) (by decide)⟩
  show own_Q16_12 Z a_1 h0 n0 _ T4.heap _
  rw [e4]
  exact ⟨rfl, N0, rfl⟩
theorem own_ef_own_rm16_22 (m : MethodId) (x0 : Addr) : entryFrame m #[(.ref x0)] 1 = mkF m 0 #[.val (.ref x0)] [] := by first | (simp [entryFrame, mkF, argsToLocals, Value.category]; done) | rfl
def own_Q16_22 (Z : State) (a_1 : Addr) (h0 : Heap) (n0 : Nat) (v : Option Value) (h : Heap) (L : List Loc) : Prop := v = some (.int (1 : Int32)) ∧ Fr n0 L ∧ h = h0
set_option maxRecDepth 65536 in
set_option maxHeartbeats 40000000 in
theorem own_rm16_22 (l : Launch) (Z : State) (a0 : Array Value) (hw : ∀ d ∈ tables_1, d.before a0 Z = true) (ws : List Jvm.Cond) (a_1 : Addr) (h0 : Heap) (n0 : Nat) (Z0 : n0 ≤ h0.size) (pr_F_a_1_head : Fld Z h0 a_1 "java/util/ArrayDeque" "head" "I" (.int (2 : Int32))) (pr_F_a_1_tail : Fld Z h0 a_1 "java/util/ArrayDeque" "tail" "I" (.int (2 : Int32))) :
    MetFree l (⟨"java/util/ArrayDeque", "isEmpty", "()Z"⟩ : MethodName) (head1 (Jvm.Cond.code (⟨"java/util/ArrayDeque", "isEmpty", "()Z"⟩ : MethodName) jdk_21_method_38_code 1 (some .boolean) :: ws) ({ frames := 0, cells := 0, slots := 0, locals := 0 } : Room)) (fun a U => a = #[(.ref a_1)] ∧ Z.Warmed39 U.vm ∧ U.heap = h0) (fun _ _ _ _ _ => True) (fun _ U o U' => ∃ v L, o = .returned v ∧ own_Q16_22 Z a_1 h0 n0 v U'.heap L ∧ FrameEnd U o U' L ({ frames := 0, cells := 0, slots := 0, locals := 0 } : Room).cells ({ frames := 0, cells := 0, slots := 0, locals := 0 } : Room).slots) := by
  refine MetFree.of_bodySF (plainFor_of_name own_pn0) hisR ?_
  intro p e s m args below meth c s₁ Bd hml0 hP hK
  obtain ⟨rfl, hZ, hh⟩ := hP
  have hx := Bd.exec
  have hby := Bd.bytes
  have hml : c.maxLocals = 1 := hml0
  have hown : s.vm.findClass "java/util/ArrayDeque" = some m.cls := findClass_of_methodNamed Bd.named
  have hnm := (name_of_methodNamed Bd.named Bd.method).1
  have X0 : Stand p l e ({ frames := 0, cells := 0, slots := 0, locals := 0 } : Room) s m #[(.ref a_1)] below meth c s₁ [] 0 0 := Stand.of_body Bd
  have e0 : s₁.heap = h0 := by rw [← hh, Bd.state]; rfl
  have N0 := Fr.nil n0
  have z0 : n0 ≤ h0.size := Z0
  have z1 := own_lt pr_F_a_1_head.lt
  have z2 := own_lt pr_F_a_1_tail.lt
  show own_Go p.tables e below (fun t o => t.status = .running ∧ Ended t below o ∧ ∃ v L, o = .returned v ∧ own_Q16_22 Z a_1 h0 n0 v t.heap L ∧ FrameEnd s o t L ({ frames := 0, cells := 0, slots := 0, locals := 0 } : Room).cells ({ frames := 0, cells := 0, slots := 0, locals := 0 } : Room).slots) s₁ (entryFrame m #[(.ref a_1)] 1)
  rw [own_ef_own_rm16_22 m a_1]
  show own_Go _ _ _ _ s₁ (mkF m 0 #[.val (.ref a_1)] [])
  refine own_go (fun _ k => XS.aloadN X0.here hx rfl (hb hby own_d16_0) rfl rfl k) ?_
  show own_Go _ _ _ _ s₁ (mkF m 1 #[.val (.ref a_1)] [(.ref a_1)])
  obtain ⟨T3, X3, e3, st3⟩ := getF X0 hx hZ hown (host := "") (Or.inl (hw _ (List.mem_of_getElem? (i := 71) rfl))) Via.refl e0 pr_F_a_1_head (g := (mkF m 1 #[.val (.ref a_1)] [(.ref a_1)])) rfl rfl (hb hby own_d16_1)
  refine own_go (fun _ k => st3 _ k) ?_
  show own_Go _ _ _ _ T3 (mkF m 4 #[.val (.ref a_1)] [(.int (2 : Int32))])
  refine own_go (fun _ k => XS.aloadN X3.here hx rfl (hb hby own_d16_4) rfl rfl k) ?_
  show own_Go _ _ _ _ T3 (mkF m 5 #[.val (.ref a_1)] [(.ref a_1), (.int (2 : Int32))])
  obtain ⟨T4, X4, e4, st4⟩ := getF X3 hx hZ hown (host := "") (Or.inl (hw _ (List.mem_of_getElem? (i := 38) rfl))) Via.refl e3 pr_F_a_1_tail (g := (mkF m 5 #[.val (.ref a_1)] [(.ref a_1), (.int (2 : Int32))])) rfl rfl (hb hby own_d16_5)
  refine own_go (fun _ k => st4 _ k) ?_
  show own_Go _ _ _ _ T4 (mkF m 8 #[.val (.ref a_1)] [(.int (2 : Int32)), (.int (2 : Int32))])
  have hc5 : (2 : Int32) = (2 : Int32) := by decide
  refine own_go (fun _ k => XS.icmpNo X4.here hx rfl (hb hby own_d16_8) rfl (Jvm.Free.XT.ii_ne_f hc5) k) ?_
  show own_Go _ _ _ _ T4 (mkF m 11 #[.val (.ref a_1)] [])
  refine own_go (fun _ k => XS.iconst X4.here hx rfl (hb hby own_d16_11) k) ?_
  show own_Go _ _ _ _ T4 (mkF m 12 #[.val (.ref a_1)] [(.int (1 : Int32))])
  refine own_go (fun _ k => XS.goto X4.here hx rfl (pc0 := 12) (pc' := 16) rfl (hb hby own_d16_12) (by decide) (by decide) k) ?_
  show own_Go _ _ _ _ T4 (mkF m 16 #[.val (.ref a_1)] [(.int (1 : Int32))])
  obtain ⟨fs, hr, hrun, hended, hW, hsame⟩ := X4.leave (v := some (.int (1 : Int32))) (fun h => by rw [Bd.returns] at h; cases h)
  refine ⟨_, _, retOut X4 hx Bd.returns rfl (Or.inl ⟨rfl, Or.inr (Or.inl rfl), _, rfl⟩) (hb hby own_d16_16) hr, hrun, hended, _, _, rfl, ?_, ⟨_, rfl⟩, hW, hsame.mono (by decide) (by decide)⟩
  show own_Q16_22 Z a_1 h0 n0 _ T4.heap _
  rw [e4]
  exact ⟨rfl, N0, rfl⟩
theorem own_d11_0 : decode jdk_21_method_13_code 0 = .ok (.aload_n 1, 1) := by decide +kernel
theorem own_d11_1 : decode jdk_21_method_13_code 1 = .ok (.ifnonnull 11, 3) := by decide +kernel
theorem own_d11_12 : decode jdk_21_method_13_code 12 = .ok (.aload_n 0, 1) := by decide +kernel
theorem own_d11_13 : decode jdk_21_method_13_code 13 = .ok (.getfield 3, 3) := by decide +kernel
theorem own_d11_16 : decode jdk_21_method_13_code 16 = .ok (.astore_n 2, 1) := by decide +kernel
theorem own_d11_17 : decode jdk_21_method_13_code 17 = .ok (.aload_n 2, 1) := by decide +kernel
theorem own_d11_18 : decode jdk_21_method_13_code 18 = .ok (.aload_n 0, 1) := by decide +kernel
theorem own_d11_19 : decode jdk_21_method_13_code 19 = .ok (.getfield 20, 3) := by decide +kernel
theorem own_d11_22 : decode jdk_21_method_13_code 22 = .ok (.aload_n 1, 1) := by decide +kernel
theorem own_d11_23 : decode jdk_21_method_13_code 23 = .ok (.aastore, 1) := by decide +kernel
theorem own_d11_24 : decode jdk_21_method_13_code 24 = .ok (.aload_n 0, 1) := by decide +kernel
theorem own_d11_25 : decode jdk_21_method_13_code 25 = .ok (.getfield 24, 3) := by decide +kernel
theorem own_d11_28 : decode jdk_21_method_13_code 28 = .ok (.aload_n 0, 1) := by decide +kernel
theorem own_d11_29 : decode jdk_21_method_13_code 29 = .ok (.aload_n 0, 1) := by decide +kernel
theorem own_d11_30 : decode jdk_21_method_13_code 30 = .ok (.getfield 20, 3) := by decide +kernel
theorem own_d11_33 : decode jdk_21_method_13_code 33 = .ok (.aload_n 2, 1) := by decide +kernel
theorem own_d11_34 : decode jdk_21_method_13_code 34 = .ok (.arraylength, 1) := by decide +kernel
theorem own_d11_35 : decode jdk_21_method_13_code 35 = .ok (.invokestatic 74, 3) := by decide +kernel
theorem own_d11_38 : decode jdk_21_method_13_code 38 = .ok (.dup_x1, 1) := by decide +kernel
theorem own_d11_39 : decode jdk_21_method_13_code 39 = .ok (.putfield 20, 3) := by decide +kernel
theorem own_d11_42 : decode jdk_21_method_13_code 42 = .ok (.if_icmp .ne 8, 3) := by decide +kernel
theorem own_d11_50 : decode jdk_21_method_13_code 50 = .ok (.return_, 1) := by decide +kernel
theorem own_ef_own_rm11_0 (m : MethodId) (x0 : Addr) (x1 : Addr) : entryFrame m #[(.ref x0), (.ref x1)] 3 = mkF m 0 #[.val (.ref x0), .val (.ref x1), .unset] [] := by first | (simp [entryFrame, mkF, argsToLocals, Value.category]; done) | rfl
def own_Q11_0 (Z : State) (a_1 : Addr) (a_2 : Addr) (ar : Addr) (g : Nat → Value) (h0 : Heap) (n0 : Nat) (v : Option Value) (h : Heap) (L : List Loc) : Prop := v = none ∧ Fr n0 L ∧ Keep h0 h [a_1, ar] ∧ Exa Z h a_1 "java/util/ArrayDeque" ∧ Fld Z h a_1 "java/util/ArrayDeque" "elements" "[Ljava/lang/Object;" (.ref ar) ∧ Fld Z h a_1 "java/util/ArrayDeque" "head" "I" (.int (0 : Int32)) ∧ Fld Z h a_1 "java/util/ArrayDeque" "tail" "I" (.int (1 : Int32)) ∧ own_AV Z h ar (.object "java/lang/Object") (17 : Int32) (own_upd g 0 (.ref a_2))
set_option maxRecDepth 65536 in
set_option maxHeartbeats 40000000 in
theorem own_rm11_0 (l : Launch) (Z : State) (a0 : Array Value) (hw : ∀ d ∈ tables_1, d.before a0 Z = true) (ws : List Jvm.Cond) (a_1 : Addr) (a_2 : Addr) (ar : Addr) (g : Nat → Value) (h0 : Heap) (n0 : Nat) (Z0 : n0 ≤ h0.size) (pr_E_a_1 : Exa Z h0 a_1 "java/util/ArrayDeque") (pr_F_a_1_elements : Fld Z h0 a_1 "java/util/ArrayDeque" "elements" "[Ljava/lang/Object;" (.ref ar)) (pr_F_a_1_head : Fld Z h0 a_1 "java/util/ArrayDeque" "head" "I" (.int (0 : Int32))) (pr_F_a_1_tail : Fld Z h0 a_1 "java/util/ArrayDeque" "tail" "I" (.int (0 : Int32))) (pr_A_ar : own_AV Z h0 ar (.object "java/lang/Object") (17 : Int32) g) (pr_O_ar : own_OA Z h0 ar "java/lang/Object") (pr_E_a_2 : Exa Z h0 a_2 "com/example/fencepost/fencepost/connector/SlotConfirmation$Transaction") (ho_ : own_lts [a_1, ar, a_2]) (gw_a_1 : n0 ≤ a_1) (gw_ar : n0 ≤ ar) :
    MetFree l (⟨"java/util/ArrayDeque", "addLast", "(Ljava/lang/Object;)V"⟩ : MethodName) (head1 (Jvm.Cond.code (⟨"java/util/ArrayDeque", "addLast", "(Ljava/lang/Object;)V"⟩ : MethodName) jdk_21_method_13_code 3 none :: ws) ({ frames := 1, cells := 0, slots := 0, locals := 15 } : Room)) (fun a U => a = #[(.ref a_1), (.ref a_2)] ∧ Z.Warmed39 U.vm ∧ U.heap = h0) (fun _ _ _ _ _ => True) (fun _ U o U' => ∃ v L, o = .returned v ∧ own_Q11_0 Z a_1 a_2 ar g h0 n0 v U'.heap L ∧ FrameEnd U o U' L ({ frames := 1, cells := 0, slots := 0, locals := 15 } : Room).cells ({ frames := 1, cells := 0, slots := 0, locals := 15 } : Room).slots) := by
  refine MetFree.of_bodySF (plainFor_of_name own_pn0) hisR ?_
  intro p e s m args below meth c s₁ Bd hml0 hP hK
  obtain ⟨rfl, hZ, hh⟩ := hP
  have hx := Bd.exec
  have hby := Bd.bytes
  have hml : c.maxLocals = 3 := hml0
  have hown : s.vm.findClass "java/util/ArrayDeque" = some m.cls := findClass_of_methodNamed Bd.named
  have hnm := (name_of_methodNamed Bd.named Bd.method).1
  have X0 : Stand p l e ({ frames := 1, cells := 0, slots := 0, locals := 15 } : Room) s m #[(.ref a_1), (.ref a_2)] below meth c s₁ [] 0 0 := Stand.of_body Bd
  have e0 : s₁.heap = h0 := by rw [← hh, Bd.state]; rfl
  have N0 := Fr.nil n0
  have z0 : n0 ≤ h0.size := Z0
  have z1 := own_lt pr_E_a_1.lt
  have z2 := own_lt pr_F_a_1_elements.lt
  have z3 := own_lt pr_F_a_1_head.lt
  have z4 := own_lt pr_F_a_1_tail.lt
  have z5 := own_lt pr_A_ar.lt
  have z6 := own_lt pr_E_a_2.lt
  have ho7 := ho_
  simp only [own_lts, and_true] at ho7
  have K0 : Keep h0 h0 [a_1, ar] := Keep.refl h0 _
  show own_Go p.tables e below (fun t o => t.status = .running ∧ Ended t below o ∧ ∃ v L, o = .returned v ∧ own_Q11_0 Z a_1 a_2 ar g h0 n0 v t.heap L ∧ FrameEnd s o t L ({ frames := 1, cells := 0, slots := 0, locals := 15 } : Room).cells ({ frames := 1, cells := 0, slots := 0, locals := 15 } : Room).slots) s₁ (entryFrame m #[(.ref a_1), (.ref a_2)] 3)
  rw [own_ef_own_rm11_0 m a_1 a_2]
  show own_Go _ _ _ _ s₁ (mkF m 0 #[.val (.ref a_1), .val (.ref a_2), .unset] [])
  refine own_go (fun _ k => XS.aloadN X0.here hx rfl (hb hby own_d11_0) rfl rfl k) ?_
  show own_Go _ _ _ _ s₁ (mkF m 1 #[.val (.ref a_1), .val (.ref a_2), .unset] [(.ref a_2)])
  refine own_go (fun _ k => XS.ifnonnullYes X0.here hx rfl (pc0 := 1) (pc' := 12) rfl (hb hby own_d11_1) rfl (by decide) (by decide) k) ?_
  show own_Go _ _ _ _ s₁ (mkF m 12 #[.val (.ref a_1), .val (.ref a_2), .unset] [])
  refine own_go (fun _ k => XS.aloadN X0.here hx rfl (hb hby own_d11_12) rfl rfl k) ?_
  show own_Go _ _ _ _ s₁ (mkF m 13 #[.val (.ref a_1), .val (.ref a_2), .unset] [(.ref a_1)])
  obtain ⟨T8, X8, e8, st8⟩ := getF X0 hx hZ hown (host := "") (Or.inl (hw _ (List.mem_of_getElem? (i := 24) rfl))) Via.refl e0 pr_F_a_1_elements (g := (mkF m 13 #[.val (.ref a_1), .val (.ref a_2), .unset] [(.ref a_1)])) rfl rfl (hb hby own_d11_13)
  refine own_go (fun _ k => st8 _ k) ?_
  show own_Go _ _ _ _ T8 (mkF m 16 #[.val (.ref a_1), .val (.ref a_2), .unset] [(.ref ar)])
  refine own_go (fun _ k => XS.astoreN X8.here hx rfl (hb hby own_d11_16) rfl rfl (l' := #[.val (.ref a_1), .val (.ref a_2), .val (.ref ar)]) rfl k) ?_
  show own_Go _ _ _ _ T8 (mkF m 17 #[.val (.ref a_1), .val (.ref a_2), .val (.ref ar)] [])
  refine own_go (fun _ k => XS.aloadN X8.here hx rfl (hb hby own_d11_17) rfl rfl k) ?_
  show own_Go _ _ _ _ T8 (mkF m 18 #[.val (.ref a_1), .val (.ref a_2), .val (.ref ar)] [(.ref ar)])
  refine own_go (fun _ k => XS.aloadN X8.here hx rfl (hb hby own_d11_18) rfl rfl k) ?_
  show own_Go _ _ _ _ T8 (mkF m 19 #[.val (.ref a_1), .val (.ref a_2), .val (.ref ar)] [(.ref a_1), (.ref ar)])
  obtain ⟨T9, X9, e9, st9⟩ := getF X8 hx hZ hown (host := "") (Or.inl (hw _ (List.mem_of_getElem? (i := 38) rfl))) Via.refl e8 pr_F_a_1_tail (g := (mkF m 19 #[.val (.ref a_1), .val (.ref a_2), .val (.ref ar)] [(.ref a_1), (.ref ar)])) rfl rfl (hb hby own_d11_19)
  refine own_go (fun _ k => st9 _ k) ?_
  show own_Go _ _ _ _ T9 (mkF m 22 #[.val (.ref a_1), .val (.ref a_2), .val (.ref ar)] [(.int (0 : Int32)), (.ref ar)])
  refine own_go (fun _ k => XS.aloadN X9.here hx rfl (hb hby own_d11_22) rfl rfl k) ?_
  show own_Go _ _ _ _ T9 (mkF m 23 #[.val (.ref a_1), .val (.ref a_2), .val (.ref ar)] [(.ref a_2), (.int (0 : Int32)), (.ref ar)])
  obtain ⟨q10, c10, R10, s10, t10⟩ := id pr_A_ar
  have hin10 : ¬ ((0 : Int32) < 0 ∨ c10.slots.size ≤ ((0 : Int32)).toNatClampNeg) := inb_of s10 ⟨by decide, by decide⟩
  obtain ⟨T11, h11, X11, e11, W11, st11⟩ := stR X9 hx hZ e9 R10 (j := (0 : Int32)) hin10 rfl (own_OA.sto R10 pr_O_ar (Ins.of_exa pr_E_a_2 (hw _ (List.mem_of_getElem? (i := 70) rfl)))) (g := (mkF m 23 #[.val (.ref a_1), .val (.ref a_2), .val (.ref ar)] [(.ref a_2), (.int (0 : Int32)), (.ref ar)])) rfl rfl (hb hby own_d11_23)
  have V11 : own_AV Z h11 ar (.object "java/lang/Object") (17 : Int32) (own_upd g 0 (.ref a_2)) := own_AV.set (k := 0) pr_A_ar W11 (by decide)
  have z12 := W11.size
  have K11 : Keep h0 h11 [a_1, ar] := K0.wr W11 (Or.inl (List.mem_of_getElem? (i := 1) rfl))
  have N11 := Fr.snoc X11 N0 (by omega : n0 ≤ ar)
  refine own_go (fun _ k => st11 _ k) ?_
  show own_Go _ _ _ _ T11 (mkF m 24 #[.val (.ref a_1), .val (.ref a_2), .val (.ref ar)] [])
  refine own_go (fun _ k => XS.aloadN X11.here hx rfl (hb hby own_d11_24) rfl rfl k) ?_
  show own_Go _ _ _ _ T11 (mkF m 25 #[.val (.ref a_1), .val (.ref a_2), .val (.ref ar)] [(.ref a_1)])
  have f13 : Fld Z h11 a_1 "java/util/ArrayDeque" "head" "I" (.int (0 : Int32)) := (pr_F_a_1_head.other W11 (Or.inl (own_ne (by omega))))
  obtain ⟨T14, X14, e14, st14⟩ := getF X11 hx hZ hown (host := "") (Or.inl (hw _ (List.mem_of_getElem? (i := 71) rfl))) Via.refl e11 f13 (g := (mkF m 25 #[.val (.ref a_1), .val (.ref a_2), .val (.ref ar)] [(.ref a_1)])) rfl rfl (hb hby own_d11_25)
  refine own_go (fun _ k => st14 _ k) ?_
  show own_Go _ _ _ _ T14 (mkF m 28 #[.val (.ref a_1), .val (.ref a_2), .val (.ref ar)] [(.int (0 : Int32))])
  refine own_go (fun _ k => XS.aloadN X14.here hx rfl (hb hby own_d11_28) rfl rfl k) ?_
  show own_Go _ _ _ _ T14 (mkF m 29 #[.val (.ref a_1), .val (.ref a_2), .val (.ref ar)] [(.ref a_1), (.int (0 : Int32))])
  refine own_go (fun _ k => XS.aloadN X14.here hx rfl (hb hby own_d11_29) rfl rfl k) ?_
  show own_Go _ _ _ _ T14 (mkF m 30 #[.val (.ref a_1), .val (.ref a_2), .val (.ref ar)] [(.ref a_1), (.ref a_1), (.int (0 : Int32))])
  have f15 : Fld Z h11 a_1 "java/util/ArrayDeque" "tail" "I" (.int (0 : Int32)) := (pr_F_a_1_tail.other W11 (Or.inl (own_ne (by omega))))
  obtain ⟨T16, X16, e16, st16⟩ := getF X14 hx hZ hown (host := "") (Or.inl (hw _ (List.mem_of_getElem? (i := 38) rfl))) Via.refl e14 f15 (g := (mkF m 30 #[.val (.ref a_1), .val (.ref a_2), .val (.ref ar)] [(.ref a_1), (.ref a_1), (.int (0 : Int32))])) rfl rfl (hb hby own_d11_30)
  refine own_go (fun _ k => st16 _ k) ?_
  show own_Go _ _ _ _ T16 (mkF m 33 #[.val (.ref a_1), .val (.ref a_2), .val (.ref ar)] [(.int (0 : Int32)), (.ref a_1), (.int (0 : Int32))])
  refine own_go (fun _ k => XS.aloadN X16.here hx rfl (hb hby own_d11_33) rfl rfl k) ?_
  show own_Go _ _ _ _ T16 (mkF m 34 #[.val (.ref a_1), .val (.ref a_2), .val (.ref ar)] [(.ref ar), (.int (0 : Int32)), (.ref a_1), (.int (0 : Int32))])
  obtain ⟨q17, c17, R17, s17, t17⟩ := id V11
  refine own_go (fun _ k => X16.arraylength hx (by rw [e16]; exact R17.1) (State.isArrayOf_alike hZ.alike R17.2.1) (g := (mkF m 34 #[.val (.ref a_1), .val (.ref a_2), .val (.ref ar)] [(.ref ar), (.int (0 : Int32)), (.ref a_1), (.int (0 : Int32))])) rfl rfl (hb hby own_d11_34) _ k) ?_
  rw [len_of s17 q17]
  show own_Go _ _ _ _ T16 (mkF m 35 #[.val (.ref a_1), .val (.ref a_2), .val (.ref ar)] [(.int (17 : Int32)), (.int (0 : Int32)), (.ref a_1), (.int (0 : Int32))])
  obtain ⟨_, _, ⟨T18, L18, k18, n18⟩, -, X18, ⟨Lc18, hQ18, l18, y18, z18⟩, st18⟩ := Jvm.LawKit.callS X16 hx (y := (⟨"java/util/ArrayDeque", "inc", "(II)I"⟩ : MethodName)) hown (mvT hZ (hw _ (List.mem_of_getElem? (i := 73) rfl))) (mvT hZ (hw _ (List.mem_of_getElem? (i := 74) rfl))) (mvT hZ (hw _ (List.mem_of_getElem? (i := 11) rfl))) (mvT hZ (hw _ (List.mem_of_getElem? (i := 75) rfl))) (by decide) (backOf (W := 2) (own_rm12_0 l Z a0 hw []   h11 n0 (by omega) ) hZ (hw _ (List.mem_of_getElem? (i := 75) rfl)) (hw _ (List.mem_of_getElem? (i := 11) rfl)) (by decide) (by decide)) (g := (mkF m 35 #[.val (.ref a_1), .val (.ref a_2), .val (.ref ar)] [(.int (17 : Int32)), (.int (0 : Int32)), (.ref a_1), (.int (0 : Int32))])) rfl (by rw [hml]; rfl) (argsL := [(.int (0 : Int32)), (.int (17 : Int32))]) (rest := [(.ref a_1), (.int (0 : Int32))]) (lenOf own_pd0 rfl) rfl (by show 2 * 0 + _ ≤ _; exact Nat.le_of_eq rfl) (hb hby own_d11_35) (fun _ _ => ⟨rfl, e16, (by decide : 0 + 0 ≤ _), (by decide : 0 + 0 ≤ _)⟩)
  dsimp only [Pt.U, Pt.locs, Pt.cells, Pt.slots] at X18 l18 y18 z18 st18 hQ18
  have y18 : k18 = 0 := y18
  have z18 : n18 = 0 := z18
  obtain ⟨rfl, N18q, e18⟩ := hQ18
  have N18 : Fr n0 L18 := by rw [l18]; exact Fr.app N11 N18q
  refine own_go (fun _ k => st18 _ k) ?_
  show own_Go _ _ _ _ T18 (mkF m 38 #[.val (.ref a_1), .val (.ref a_2), .val (.ref ar)] [(.int (1 : Int32)), (.ref a_1), (.int (0 : Int32))])
  refine own_go (fun _ k => XS.dupX1 X18.here hx rfl (hb hby own_d11_38) rfl rfl rfl k) ?_
  show own_Go _ _ _ _ T18 (mkF m 39 #[.val (.ref a_1), .val (.ref a_2), .val (.ref ar)] [(.int (1 : Int32)), (.ref a_1), (.int (1 : Int32)), (.int (0 : Int32))])
  have f19 : Exa Z h11 a_1 "java/util/ArrayDeque" := (pr_E_a_1.wr W11)
  obtain ⟨T20, h20, X20, e20, W20, st20⟩ := putF X18 hx hZ hown (host := "") (Or.inl (hw _ (List.mem_of_getElem? (i := 38) rfl))) Via.refl e18 f15 f19 (Or.inl (hw _ (List.mem_of_getElem? (i := 39) rfl))) (hw _ (List.mem_of_getElem? (i := 10) rfl)) (ty := .int) (by decide) rfl rfl (g := (mkF m 39 #[.val (.ref a_1), .val (.ref a_2), .val (.ref ar)] [(.int (1 : Int32)), (.ref a_1), (.int (1 : Int32)), (.int (0 : Int32))])) rfl rfl (hb hby own_d11_39)
  have z21 := W20.size
  have K20 : Keep h0 h20 [a_1, ar] := K11.wr W20 (Or.inl (List.mem_of_getElem? (i := 0) rfl))
  have N20 := Fr.snoc X20 N18 (by omega : n0 ≤ a_1)
  have Fw20 : Fld Z h20 a_1 "java/util/ArrayDeque" "tail" "I" (.int (1 : Int32)) := Fld.same W20 f15
  refine own_go (fun _ k => st20 _ k) ?_
  show own_Go _ _ _ _ T20 (mkF m 42 #[.val (.ref a_1), .val (.ref a_2), .val (.ref ar)] [(.int (1 : Int32)), (.int (0 : Int32))])
  have hc22 : ¬ ((0 : Int32) = (1 : Int32)) := by decide
  refine own_go (fun _ k => XS.icmpYes X20.here hx rfl (pc0 := 42) (pc' := 50) rfl (hb hby own_d11_42) rfl (Jvm.Free.XT.ii_ne_t hc22) (by decide) (by decide) k) ?_
  show own_Go _ _ _ _ T20 (mkF m 50 #[.val (.ref a_1), .val (.ref a_2), .val (.ref ar)] [])
  obtain ⟨fs, hr, hrun, hended, hW, hsame⟩ := X20.leave (v := none) (fun _ => rfl)
  refine ⟨_, _, X20.returnOut hx Bd.returns (hb hby own_d11_50) hr, hrun, hended, _, _, rfl, ?_, ⟨_, rfl⟩, hW, hsame.mono (by rw [y18]; decide) (by rw [z18]; decide)⟩
  show own_Q11_0 Z a_1 a_2 ar g h0 n0 _ T20.heap _
  rw [e20]
  have f24 : Exa Z h20 a_1 "java/util/ArrayDeque" := (f19.wr W20)
  have f25 : Fld Z h20 a_1 "java/util/ArrayDeque" "elements" "[Ljava/lang/Object;" (.ref ar) := ((pr_F_a_1_elements.other W11 (Or.inl (own_ne (by omega)))).other W20 (Or.inr (slot_ne (Or.inl (hw _ (List.mem_of_getElem? (i := 25) rfl))) (Or.inl (hw _ (List.mem_of_getElem? (i := 39) rfl))) (by decide) (t := (.array (.object "java/lang/Object"))) (t' := .int) (by decide) (by decide))))
  have f26 : Fld Z h20 a_1 "java/util/ArrayDeque" "head" "I" (.int (0 : Int32)) := (f13.other W20 (Or.inr (slot_ne (Or.inl (hw _ (List.mem_of_getElem? (i := 72) rfl))) (Or.inl (hw _ (List.mem_of_getElem? (i := 39) rfl))) (by decide) (t := .int) (t' := .int) (by decide) (by decide))))
  have f27 : own_AV Z h20 ar (.object "java/lang/Object") (17 : Int32) (own_upd g 0 (.ref a_2)) := (V11.other W20 (own_ne (by omega)))
  exact ⟨rfl, N20, K20, f24, f25, f26, Fw20, f27⟩
theorem own_ef_own_rm11_1 (m : MethodId) (x0 : Addr) (x1 : Addr) : entryFrame m #[(.ref x0), (.ref x1)] 3 = mkF m 0 #[.val (.ref x0), .val (.ref x1), .unset] [] := by first | (simp [entryFrame, mkF, argsToLocals, Value.category]; done) | rfl
def own_Q11_1 (Z : State) (a_1 : Addr) (a_2 : Addr) (ar : Addr) (g : Nat → Value) (h0 : Heap) (n0 : Nat) (v : Option Value) (h : Heap) (L : List Loc) : Prop := v = none ∧ Fr n0 L ∧ Keep h0 h [a_1, ar] ∧ Exa Z h a_1 "java/util/ArrayDeque" ∧ Fld Z h a_1 "java/util/ArrayDeque" "elements" "[Ljava/lang/Object;" (.ref ar) ∧ Fld Z h a_1 "java/util/ArrayDeque" "head" "I" (.int (1 : Int32)) ∧ Fld Z h a_1 "java/util/ArrayDeque" "tail" "I" (.int (2 : Int32)) ∧ own_AV Z h ar (.object "java/lang/Object") (17 : Int32) (own_upd g 1 (.ref a_2))
set_option maxRecDepth 65536 in
set_option maxHeartbeats 40000000 in
theorem own_rm11_1 (l : Launch) (Z : State) (a0 : Array Value) (hw : ∀ d ∈ tables_1, d.before a0 Z = true) (ws : List Jvm.Cond) (a_1 : Addr) (a_2 : Addr) (ar : Addr) (g : Nat → Value) (h0 : Heap) (n0 : Nat) (Z0 : n0 ≤ h0.size) (pr_E_a_1 : Exa Z h0 a_1 "java/util/ArrayDeque") (pr_F_a_1_elements : Fld Z h0 a_1 "java/util/ArrayDeque" "elements" "[Ljava/lang/Object;" (.ref ar)) (pr_F_a_1_head : Fld Z h0 a_1 "java/util/ArrayDeque" "head" "I" (.int (1 : Int32))) (pr_F_a_1_tail : Fld Z h0 a_1 "java/util/ArrayDeque" "tail" "I" (.int (1 : Int32))) (pr_A_ar : own_AV Z h0 ar (.object "java/lang/Object") (17 : Int32) g) (pr_O_ar : own_OA Z h0 ar "java/lang/Object") (pr_E_a_2 : Exa Z h0 a_2 "com/example/fencepost/fencepost/connector/SlotConfirmation$Transaction") (ho_ : own_lts [a_1, ar, a_2]) (gw_a_1 : n0 ≤ a_1) (gw_ar : n0 ≤ ar) :
    MetFree l (⟨"java/util/ArrayDeque", "addLast", "(Ljava/lang/Object;)V"⟩ : MethodName) (head1 (Jvm.Cond.code (⟨"java/util/ArrayDeque", "addLast", "(Ljava/lang/Object;)V"⟩ : MethodName) jdk_21_method_13_code 3 none :: ws) ({ frames := 1, cells := 0, slots := 0, locals := 15 } : Room)) (fun a U => a = #[(.ref a_1), (.ref a_2)] ∧ Z.Warmed39 U.vm ∧ U.heap = h0) (fun _ _ _ _ _ => True) (fun _ U o U' => ∃ v L, o = .returned v ∧ own_Q11_1 Z a_1 a_2 ar g h0 n0 v U'.heap L ∧ FrameEnd U o U' L ({ frames := 1, cells := 0, slots := 0, locals := 15 } : Room).cells ({ frames := 1, cells := 0, slots := 0, locals := 15 } : Room).slots) := by
  refine MetFree.of_bodySF (plainFor_of_name own_pn0) hisR ?_
  intro p e s m args below meth c s₁ Bd hml0 hP hK
  obtain ⟨rfl, hZ, hh⟩ := hP
  have hx := Bd.exec
  have hby := Bd.bytes
  have hml : c.maxLocals = 3 := hml0
  have hown : s.vm.findClass "java/util/ArrayDeque" = some m.cls := findClass_of_methodNamed Bd.named
  have hnm := (name_of_methodNamed Bd.named Bd.method).1
  have X0 : Stand p l e ({ frames := 1, cells := 0, slots := 0, locals := 15 } : Room) s m #[(.ref a_1), (.ref a_2)] below meth c s₁ [] 0 0 := Stand.of_body Bd
  have e0 : s₁.heap = h0 := by rw [← hh, Bd.state]; rfl
  have N0 := Fr.nil n0
  have z0 : n0 ≤ h0.size := Z0
  have z1 := own_lt pr_E_a_1.lt
  have z2 := own_lt pr_F_a_1_elements.lt
  have z3 := own_lt pr_F_a_1_head.lt
  have z4 := own_lt pr_F_a_1_tail.lt
  have z5 := own_lt pr_A_ar.lt
  have z6 := own_lt pr_E_a_2.lt
  have ho7 := ho_
  simp only [own_lts, and_true] at ho7
  have K0 : Keep h0 h0 [a_1, ar] := Keep.refl h0 _
  show own_Go p.tables e below (fun t o => t.status = .running ∧ Ended t below o ∧ ∃ v L, o = .returned v ∧ own_Q11_1 Z a_1 a_2 ar g h0 n0 v t.heap L ∧ FrameEnd s o t L ({ frames := 1, cells := 0, slots := 0, locals := 15 } : Room).cells ({ frames := 1, cells := 0, slots := 0, locals := 15 } : Room).slots) s₁ (entryFrame m #[(.ref a_1), (.ref a_2)] 3)
  rw [own_ef_own_rm11_1 m a_1 a_2]
  show own_Go _ _ _ _ s₁ (mkF m 0 #[.val (.ref a_1), .val (.ref a_2), .unset] [])
  refine own_go (fun _ k => XS.aloadN X0.here hx rfl (hb hby own_d11_0) rfl rfl k) ?_
  show own_Go _ _ _ _ s₁ (mkF m 1 #[.val (.ref a_1), .val (.ref a_2), .unset] [(.ref a_2)])
  refine own_go (fun _ k => XS.ifnonnullYes X0.here hx rfl (pc0 := 1) (pc' := 12) rfl (hb hby own_d11_1) rfl (by decide) (by decide) k) ?_
  show own_Go _ _ _ _ s₁ (mkF m 12 #[.val (.ref a_1), .val (.ref a_2), .unset] [])
  refine own_go (fun _ k => XS.aloadN X0.here hx rfl (hb hby own_d11_12) rfl rfl k) ?_
  show own_Go _ _ _ _ s₁ (mkF m 13 #[.val (.ref a_1), .val (.ref a_2), .unset] [(.ref a_1)])
  obtain ⟨T8, X8, e8, st8⟩ := getF X0 hx hZ hown (host := "") (Or.inl (hw _ (List.mem_of_getElem? (i := 24) rfl))) Via.refl e0 pr_F_a_1_elements (g := (mkF m 13 #[.val (.ref a_1), .val (.ref a_2), .unset] [(.ref a_1)])) rfl rfl (hb hby own_d11_13)
  refine own_go (fun _ k => st8 _ k) ?_
  show own_Go _ _ _ _ T8 (mkF m 16 #[.val (.ref a_1), .val (.ref a_2), .unset] [(.ref ar)])
  refine own_go (fun _ k => XS.astoreN X8.here hx rfl (hb hby own_d11_16) rfl rfl (l' := #[.val (.ref a_1), .val (.ref a_2), .val (.ref ar)]) rfl k) ?_
  show own_Go _ _ _ _ T8 (mkF m 17 #[.val (.ref a_1), .val (.ref a_2), .val (.ref ar)] [])
  refine own_go (fun _ k => XS.aloadN X8.here hx rfl (hb hby own_d11_17) rfl rfl k) ?_
  show own_Go _ _ _ _ T8 (mkF m 18 #[.val (.ref a_1), .val (.ref a_2), .val (.ref ar)] [(.ref ar)])
  refine own_go (fun _ k => XS.aloadN X8.here hx rfl (hb hby own_d11_18) rfl rfl k) ?_
  show own_Go _ _ _ _ T8 (mkF m 19 #[.val (.ref a_1), .val (.ref a_2), .val (.ref ar)] [(.ref a_1), (.ref ar)])
  obtain ⟨T9, X9, e9, st9⟩ := getF X8 hx hZ hown (host := "") (Or.inl (hw _ (List.mem_of_getElem? (i := 38) rfl))) Via.refl e8 pr_F_a_1_tail (g := (mkF m 19 #[.val (.ref a_1), .val (.ref a_2), .val (.ref ar)] [(.ref a_1), (.ref ar)])) rfl rfl (hb hby own_d11_19)
  refine own_go (fun _ k => st9 _ k) ?_
  show own_Go _ _ _ _ T9 (mkF m 22 #[.val (.ref a_1), .val (.ref a_2), .val (.ref ar)] [(.int (1 : Int32)), (.ref ar)])
  refine own_go (fun _ k => XS.aloadN X9.here hx rfl (hb hby own_d11_22) rfl rfl k) ?_
  show own_Go _ _ _ _ T9 (mkF m 23 #[.val (.ref a_1), .val (.ref a_2), .val (.ref ar)] [(.ref a_2), (.int (1 : Int32)), (.ref ar)])
  obtain ⟨q10, c10, R10, s10, t10⟩ := id pr_A_ar
  have hin10 : ¬ ((1 : Int32) < 0 ∨ c10.slots.size ≤ ((1 : Int32)).toNatClampNeg) := inb_of s10 ⟨by decide, by decide⟩
  obtain ⟨T11, h11, X11, e11, W11, st11⟩ := stR X9 hx hZ e9 R10 (j := (1 : Int32)) hin10 rfl (own_OA.sto R10 pr_O_ar (Ins.of_exa pr_E_a_2 (hw _ (List.mem_of_getElem? (i := 70) rfl)))) (g := (mkF m 23 #[.val (.ref a_1), .val (.ref a_2), .val (.ref ar)] [(.ref a_2), (.int (1 : Int32)), (.ref ar)])) rfl rfl (hb hby own_d11_23)
  have V11 : own_AV Z h11 ar (.object "java/lang/Object") (17 : Int32) (own_upd g 1 (.ref a_2)) := own_AV.set (k := 1) pr_A_ar W11 (by decide)
  have z12 := W11.size
  have K11 : Keep h0 h11 [a_1, ar] := K0.wr W11 (Or.inl (List.mem_of_getElem? (i := 1) rfl))
  have N11 := Fr.snoc X11 N0 (by omega : n0 ≤ ar)
  refine own_go (fun _ k => st11 _ k) ?_
  show own_Go _ _ _ _ T11 (mkF m 24 #[.val (.ref a_1), .val (.ref a_2), .val (.ref ar)] [])
  refine own_go (fun _ k => XS.aloadN X11.here hx rfl (hb hby own_d11_24) rfl rfl k) ?_
  show own_Go _ _ _ _ T11 (mkF m 25 #[.val (.ref a_1), .val (.ref a_2), .val (.ref ar)] [(.ref a_1)])
  have f13 : Fld Z h11 a_1 "java/util/ArrayDeque" "head" "I" (.int (1 : Int32)) := (pr_F_a_1_head.other W11 (Or.inl (own_ne (by omega))))
  obtain ⟨T14, X14, e14, st14⟩ := getF X11 hx hZ hown (host := "") (Or.inl (hw _ (List.mem_of_getElem? (i := 71) rfl))) Via.refl e11 f13 (g := (mkF m 25 #[.val (.ref a_1), .val (.ref a_2), .val (.ref ar)] [(.ref a_1)])) rfl rfl (hb hby own_d11_25)
  refine own_go (fun _ k => st14 _ k) ?_
  show own_Go _ _ _ _ T14 (mkF m 28 #[.val (.ref a_1), .val (.ref a_2), .val (.ref ar)] [(.int (1 : Int32))])
  refine own_go (fun _ k => XS.aloadN X14.here hx rfl (hb hby own_d11_28) rfl rfl k) ?_
  show own_Go _ _ _ _ T14 (mkF m 29 #[.val (.ref a_1), .val (.ref a_2), .val (.ref ar)] [(.ref a_1), (.int (1 : Int32))])
  refine own_go (fun _ k => XS.aloadN X14.here hx rfl (hb hby own_d11_29) rfl rfl k) ?_
  show own_Go _ _ _ _ T14 (mkF m 30 #[.val (.ref a_1), .val (.ref a_2), .val (.ref ar)] [(.ref a_1), (.ref a_1), (.int (1 : Int32))])
  have f15 : Fld Z h11 a_1 "java/util/ArrayDeque" "tail" "I" (.int (1 : Int32)) := (pr_F_a_1_tail.other W11 (Or.inl (own_ne (by omega))))
  obtain ⟨T16, X16, e16, st16⟩ := getF X14 hx hZ hown (host := "") (Or.inl (hw _ (List.mem_of_getElem? (i := 38) rfl))) Via.refl e14 f15 (g := (mkF m 30 #[.val (.ref a_1), .val (.ref a_2), .val (.ref ar)] [(.ref a_1), (.ref a_1), (.int (1 : Int32))])) rfl rfl (hb hby own_d11_30)
  refine own_go (fun _ k => st16 _ k) ?_
  show own_Go _ _ _ _ T16 (mkF m 33 #[.val (.ref a_1), .val (.ref a_2), .val (.ref ar)] [(.int (1 : Int32)), (.ref a_1), (.int (1 : Int32))])
  refine own_go (fun _ k => XS.aloadN X16.here hx rfl (hb hby own_d11_33) rfl rfl k) ?_
  show own_Go _ _ _ _ T16 (mkF m 34 #[.val (.ref a_1), .val (.ref a_2), .val (.ref ar)] [(.ref ar), (.int (1 : Int32)), (.ref a_1), (.int (1 : Int32))])
  obtain ⟨q17, c17, R17, s17, t17⟩ := id V11
  refine own_go (fun _ k => X16.arraylength hx (by rw [e16]; exact R17.1) (State.isArrayOf_alike hZ.alike R17.2.1) (g := (mkF m 34 #[.val (.ref a_1), .val (.ref a_2), .val (.ref ar)] [(.ref ar), (.int (1 : Int32)), (.ref a_1), (.int (1 : Int32))])) rfl rfl (hb hby own_d11_34) _ k) ?_
  rw [len_of s17 q17]
  show own_Go _ _ _ _ T16 (mkF m 35 #[.val (.ref a_1), .val (.ref a_2), .val (.ref ar)] [(.int (17 : Int32)), (.int (1 : Int32)), (.ref a_1), (.int (1 : Int32))])
  obtain ⟨_, _, ⟨T18, L18, k18, n18⟩, -, X18, ⟨Lc18, hQ18, l18, y18, z18⟩, st18⟩ := Jvm.LawKit.callS X16 hx (y := (⟨"java/util/ArrayDeque", "inc", "(II)I"⟩ : MethodName)) hown (mvT hZ (hw _ (List.mem_of_getElem? (i := 73) rfl))) (mvT hZ (hw _ (List.mem_of_getElem? (i := 74) rfl))) (mvT hZ (hw _ (List.mem_of_getElem? (i := 11) rfl))) (mvT hZ (hw _ (List.mem_of_getElem? (i := 75) rfl))) (by decide) (backOf (W := 2) (own_rm12_1 l Z a0 hw []   h11 n0 (by omega) ) hZ (hw _ (List.mem_of_getElem? (i := 75) rfl)) (hw _ (List.mem_of_getElem? (i := 11) rfl)) (by decide) (by decide)) (g := (mkF m 35 #[.val (.ref a_1), .val (.ref a_2), .val (.ref ar)] [(.int (17 : Int32)), (.int (1 : Int32)), (.ref a_1), (.int (1 : Int32))])) rfl (by rw [hml]; rfl) (argsL := [(.int (1 : Int32)), (.int (17 : Int32))]) (rest := [(.ref a_1), (.int (1 : Int32))]) (lenOf own_pd0 rfl) rfl (by show 2 * 0 + _ ≤ _; exact Nat.le_of_eq rfl) (hb hby own_d11_35) (fun _ _ => ⟨rfl, e16, (by decide : 0 + 0 ≤ _), (by decide : 0 + 0 ≤ _)⟩)
  dsimp only [Pt.U, Pt.locs, Pt.cells, Pt.slots] at X18 l18 y18 z18 st18 hQ18
  have y18 : k18 = 0 := y18
  have z18 : n18 = 0 := z18
  obtain ⟨rfl, N18q, e18⟩ := hQ18
  have N18 : Fr n0 L18 := by rw [l18]; exact Fr.app N11 N18q
  refine own_go (fun _ k => st18 _ k) ?_
  show own_Go _ _ _ _ T18 (mkF m 38 #[.val (.ref a_1), .val (.ref a_2), .val (.ref ar)] [(.int (2 : Int32)), (.ref a_1), (.int (1 : Int32))])
  refine own_go (fun _ k => XS.dupX1 X18.here hx rfl (hb hby own_d11_38) rfl rfl rfl k) ?_
  show own_Go _ _ _ _ T18 (mkF m 39 #[.val (.ref a_1), .val (.ref a_2), .val (.ref ar)] [(.int (2 : Int32)), (.ref a_1), (.int (2 : Int32)), (.int (1 : Int32))])
  have f19 : Exa Z h11 a_1 "java/util/ArrayDeque" := (pr_E_a_1.wr W11)
  obtain ⟨T20, h20, X20, e20, W20, st20⟩ := putF X18 hx hZ hown (host := "") (Or.inl (hw _ (List.mem_of_getElem? (i := 38) rfl))) Via.refl e18 f15 f19 (Or.inl (hw _ (List.mem_of_getElem? (i := 39) rfl))) (hw _ (List.mem_of_getElem? (i := 10) rfl)) (ty := .int) (by decide) rfl rfl (g := (mkF m 39 #[.val (.ref a_1), .val (.ref a_2), .val (.ref ar)] [(.int (2 : Int32)), (.ref a_1), (.int (2 : Int32)), (.int (1 : Int32))])) rfl rfl (hb hby own_d11_39)
  have z21 := W20.size
  have K20 : Keep h0 h20 [a_1, ar] := K11.wr W20 (Or.inl (List.mem_of_getElem? (i := 0) rfl))
  have N20 := Fr.snoc X20 N18 (by omega : n0 ≤ a_1)
  have Fw20 : Fld Z h20 a_1 "java/util/ArrayDeque" "tail" "I" (.int (2 : Int32)) := Fld.same W20 f15
  refine own_go (fun _ k => st20 _ k) ?_
  show own_Go _ _ _ _ T20 (mkF m 42 #[.val (.ref a_1), .val (.ref a_2), .val (.ref ar)] [(.int (2 : Int32)), (.int (1 : Int32))])
  have hc22 : ¬ ((1 : Int32) = (2 : Int32)) := by decide
  refine own_go (fun _ k => XS.icmpYes X20.here hx rfl (pc0 := 42) (pc' := 50) rfl (hb hby own_d11_42) rfl (Jvm.Free.XT.ii_ne_t hc22) (by decide) (by decide) k) ?_
  show own_Go _ _ _ _ T20 (mkF m 50 #[.val (.ref a_1), .val (.ref a_2), .val (.ref ar)] [])
  obtain ⟨fs, hr, hrun, hended, hW, hsame⟩ := X20.leave (v := none) (fun _ => rfl)
  refine ⟨_, _, X20.returnOut hx Bd.returns (hb hby own_d11_50) hr, hrun, hended, _, _, rfl, ?_, ⟨_, rfl⟩, hW, hsame.mono (by rw [y18]; decide) (by rw [z18]; decide)⟩
  show own_Q11_1 Z a_1 a_2 ar g h0 n0 _ T20.heap _
  rw [e20]
  have f24 : Exa Z h20 a_1 "java/util/ArrayDeque" := (f19.wr W20)
  have f25 : Fld Z h20 a_1 "java/util/ArrayDeque" "elements" "[Ljava/lang/Object;" (.ref ar) := ((pr_F_a_1_elements.other W11 (Or.inl (own_ne (by omega)))).other W20 (Or.inr (slot_ne (Or.inl (hw _ (List.mem_of_getElem? (i := 25) rfl))) (Or.inl (hw _ (List.mem_of_getElem? (i := 39) rfl))) (by decide) (t := (.array (.object "java/lang/Object"))) (t' := .int) (by decide) (by decide))))
  have f26 : Fld Z h20 a_1 "java/util/ArrayDeque" "head" "I" (.int (1 : Int32)) := (f13.other W20 (Or.inr (slot_ne (Or.inl (hw _ (List.mem_of_getElem? (i := 72) rfl))) (Or.inl (hw _ (List.mem_of_getElem? (i := 39) rfl))) (by decide) (t := .int) (t' := .int) (by decide) (by decide))))
  have f27 : own_AV Z h20 ar (.object "java/lang/Object") (17 : Int32) (own_upd g 1 (.ref a_2)) := (V11.other W20 (own_ne (by omega)))
  exact ⟨rfl, N20, K20, f24, f25, f26, Fw20, f27⟩
theorem own_d10_0 : decode jdk_21_method_28_code 0 = .ok (.aload_n 0, 1) := by decide +kernel
theorem own_d10_1 : decode jdk_21_method_28_code 1 = .ok (.aload_n 1, 1) := by decide +kernel
theorem own_d10_2 : decode jdk_21_method_28_code 2 = .ok (.invokevirtual 90, 3) := by decide +kernel
theorem own_d10_5 : decode jdk_21_method_28_code 5 = .ok (.iconst 1, 1) := by decide +kernel
theorem own_d10_6 : decode jdk_21_method_28_code 6 = .ok (.ireturn, 1) := by decide +kernel
theorem own_ef_own_rm10_0 (m : MethodId) (x0 : Addr) (x1 : Addr) : entryFrame m #[(.ref x0), (.ref x1)] 2 = mkF m 0 #[.val (.ref x0), .val (.ref x1)] [] := by first | (simp [entryFrame, mkF, argsToLocals, Value.category]; done) | rfl
def own_Q10_0 (Z : State) (a_1 : Addr) (a_2 : Addr) (ar : Addr) (g : Nat → Value) (h0 : Heap) (n0 : Nat) (v : Option Value) (h : Heap) (L : List Loc) : Prop := v = some (.int (1 : Int32)) ∧ Fr n0 L ∧ Keep h0 h [a_1, ar] ∧ Exa Z h a_1 "java/util/ArrayDeque" ∧ Fld Z h a_1 "java/util/ArrayDeque" "elements" "[Ljava/lang/Object;" (.ref ar) ∧ Fld Z h a_1 "java/util/ArrayDeque" "head" "I" (.int (0 : Int32)) ∧ Fld Z h a_1 "java/util/ArrayDeque" "tail" "I" (.int (1 : Int32)) ∧ own_AV Z h ar (.object "java/lang/Object") (17 : Int32) (own_upd g 0 (.ref a_2))
set_option maxRecDepth 65536 in
set_option maxHeartbeats 40000000 in
theorem own_rm10_0 (l : Launch) (Z : State) (a0 : Array Value) (hw : ∀ d ∈ tables_1, d.before a0 Z = true) (ws : List Jvm.Cond) (a_1 : Addr) (a_2 : Addr) (ar : Addr) (g : Nat → Value) (h0 : Heap) (n0 : Nat) (Z0 : n0 ≤ h0.size) (pr_E_a_1 : Exa Z h0 a_1 "java/util/ArrayDeque") (pr_F_a_1_elements : Fld Z h0 a_1 "java/util/ArrayDeque" "elements" "[Ljava/lang/Object;" (.ref ar)) (pr_F_a_1_head : Fld Z h0 a_1 "java/util/ArrayDeque" "head" "I" (.int (0 : Int32))) (pr_F_a_1_tail : Fld Z h0 a_1 "java/util/ArrayDeque" "tail" "I" (.int (0 : Int32))) (pr_A_ar : own_AV Z h0 ar (.object "java/lang/Object") (17 : Int32) g) (pr_O_ar : own_OA Z h0 ar "java/lang/Object") (pr_E_a_2 : Exa Z h0 a_2 "com/example/fencepost/fencepost/connector/SlotConfirmation$Transaction") (ho_ : own_lts [a_1, ar, a_2]) (gw_a_1 : n0 ≤ a_1) (gw_ar : n0 ≤ ar) :
    MetFree l (⟨"java/util/ArrayDeque", "add", "(Ljava/lang/Object;)Z"⟩ : MethodName) (head1 (Jvm.Cond.code (⟨"java/util/ArrayDeque", "add", "(Ljava/lang/Object;)Z"⟩ : MethodName) jdk_21_method_28_code 2 (some .boolean) :: ws) ({ frames := 2, cells := 0, slots := 0, locals := 29 } : Room)) (fun a U => a = #[(.ref a_1), (.ref a_2)] ∧ Z.Warmed39 U.vm ∧ U.heap = h0) (fun _ _ _ _ _ => True) (fun _ U o U' => ∃ v L, o = .returned v ∧ own_Q10_0 Z a_1 a_2 ar g h0 n0 v U'.heap L ∧ FrameEnd U o U' L ({ frames := 2, cells := 0, slots := 0, locals := 29 } : Room).cells ({ frames := 2, cells := 0, slots := 0, locals := 29 } : Room).slots) := by
  refine MetFree.of_bodySF (plainFor_of_name own_pn0) hisR ?_
  intro p e s m args below meth c s₁ Bd hml0 hP hK
  obtain ⟨rfl, hZ, hh⟩ := hP
  have hx := Bd.exec
  have hby := Bd.bytes
  have hml : c.maxLocals = 2 := hml0
  have hown : s.vm.findClass "java/util/ArrayDeque" = some m.cls := findClass_of_methodNamed Bd.named
  have hnm := (name_of_methodNamed Bd.named Bd.method).1
  have X0 : Stand p l e ({ frames := 2, cells := 0, slots := 0, locals := 29 } : Room) s m #[(.ref a_1), (.ref a_2)] below meth c s₁ [] 0 0 := Stand.of_body Bd
  have e0 : s₁.heap = h0 := by rw [← hh, Bd.state]; rfl
  have N0 := Fr.nil n0
  have z0 : n0 ≤ h0.size := Z0
  have z1 := own_lt pr_E_a_1.lt
  have z2 := own_lt pr_F_a_1_elements.lt
  have z3 := own_lt pr_F_a_1_head.lt
  have z4 := own_lt pr_F_a_1_tail.lt
  have z5 := own_lt pr_A_ar.lt
  have z6 := own_lt pr_E_a_2.lt
  have ho7 := ho_
  simp only [own_lts, and_true] at ho7
  have K0 : Keep h0 h0 [a_1, ar] := Keep.refl h0 _
  show own_Go p.tables e below (fun t o => t.status = .running ∧ Ended t below o ∧ ∃ v L, o = .returned v ∧ own_Q10_0 Z a_1 a_2 ar g h0 n0 v t.heap L ∧ FrameEnd s o t L ({ frames := 2, cells := 0, slots := 0, locals := 29 } : Room).cells ({ frames := 2, cells := 0, slots := 0, locals := 29 } : Room).slots) s₁ (entryFrame m #[(.ref a_1), (.ref a_2)] 2)
  rw [own_ef_own_rm10_0 m a_1 a_2]
  show own_Go _ _ _ _ s₁ (mkF m 0 #[.val (.ref a_1), .val (.ref a_2)] [])
  refine own_go (fun _ k => XS.aloadN X0.here hx rfl (hb hby own_d10_0) rfl rfl k) ?_
  show own_Go _ _ _ _ s₁ (mkF m 1 #[.val (.ref a_1), .val (.ref a_2)] [(.ref a_1)])
  refine own_go (fun _ k => XS.aloadN X0.here hx rfl (hb hby own_d10_1) rfl rfl k) ?_
  show own_Go _ _ _ _ s₁ (mkF m 2 #[.val (.ref a_1), .val (.ref a_2)] [(.ref a_2), (.ref a_1)])
  obtain ⟨cq8, kq8, q8a, q8b, q8c⟩ := isOf hZ e0 pr_E_a_1
  obtain ⟨_, _, ⟨T8, L8, k8, n8⟩, -, X8, ⟨Lc8, hQ8, l8, y8, z8⟩, st8⟩ := X0.virtualBack hx (y := (⟨"java/util/ArrayDeque", "addLast", "(Ljava/lang/Object;)V"⟩ : MethodName)) (z := (⟨"java/util/ArrayDeque", "addLast", "(Ljava/lang/Object;)V"⟩ : MethodName)) hown (mvT hZ (hw _ (List.mem_of_getElem? (i := 65) rfl))) (mvT hZ (hw _ (List.mem_of_getElem? (i := 66) rfl))) (notFace_of_selects (args := #[]) (mvT hZ (hw _ (List.mem_of_getElem? (i := 68) rfl)))) (mvT hZ (hw _ (List.mem_of_getElem? (i := 68) rfl))) (mvT hZ (hw _ (List.mem_of_getElem? (i := 67) rfl))) (by decide) (backOf (W := 0) (own_rm11_0 l Z a0 hw [] a_1 a_2 ar g h0 n0 (by omega) pr_E_a_1 pr_F_a_1_elements pr_F_a_1_head pr_F_a_1_tail pr_A_ar pr_O_ar pr_E_a_2 (by simp only [own_lts, and_true]; omega) (by omega) (by omega)) hZ (hw _ (List.mem_of_getElem? (i := 69) rfl)) (hw _ (List.mem_of_getElem? (i := 11) rfl)) (by decide) (by decide)) q8a q8c (g := (mkF m 2 #[.val (.ref a_1), .val (.ref a_2)] [(.ref a_2), (.ref a_1)])) rfl (by rw [hml]; rfl) (Steps.refl _) (argsL := [(.ref a_2)]) (rest := []) (lenOf own_pd2 rfl) rfl (by show 2 * 0 + _ ≤ _; exact Nat.le_of_eq rfl) (hb hby own_d10_2) (fun _ _ => ⟨rfl, e0, (by decide : 0 + 0 ≤ _), (by decide : 0 + 0 ≤ _)⟩)
  dsimp only [Pt.U, Pt.locs, Pt.cells, Pt.slots] at X8 l8 y8 z8 st8 hQ8
  have y8 : k8 = 0 := y8
  have z8 : n8 = 0 := z8
  obtain ⟨rfl, N8q, K8q, f9, f10, f11, f12, f13⟩ := hQ8
  have N8 : Fr n0 L8 := by rw [l8]; exact Fr.app N0 N8q
  have z14 := K8q.1
  have K8 : Keep h0 T8.heap [a_1, ar] := K0.trans K8q (allS (Or.inl (List.mem_of_getElem? (i := 0) rfl)) (allS (Or.inl (List.mem_of_getElem? (i := 1) rfl)) all0))
  have z15 := own_lt f9.lt
  have z16 := own_lt f10.lt
  have z17 := own_lt f11.lt
  have z18 := own_lt f12.lt
  have z19 := own_lt f13.lt
  refine own_go (fun _ k => st8.trans k) ?_
  show own_Go _ _ _ _ T8 (mkF m 5 #[.val (.ref a_1), .val (.ref a_2)] [])
  refine own_go (fun _ k => XS.iconst X8.here hx rfl (hb hby own_d10_5) k) ?_
  show own_Go _ _ _ _ T8 (mkF m 6 #[.val (.ref a_1), .val (.ref a_2)] [(.int (1 : Int32))])
  obtain ⟨fs, hr, hrun, hended, hW, hsame⟩ := X8.leave (v := some (.int (1 : Int32))) (fun h => by rw [Bd.returns] at h; cases h)
  refine ⟨_, _, retOut X8 hx Bd.returns rfl (Or.inl ⟨rfl, Or.inr (Or.inl rfl), _, rfl⟩) (hb hby own_d10_6) hr, hrun, hended, _, _, rfl, ?_, ⟨_, rfl⟩, hW, hsame.mono (by rw [y8]; decide) (by rw [z8]; decide)⟩
  exact ⟨rfl, N8, K8, f9, f10, f11, f12, f13⟩
theorem own_ef_own_rm10_1 (m : MethodId) (x0 : Addr) (x1 : Addr) : entryFrame m #[(.ref x0), (.ref x1)] 2 = mkF m 0 #[.val (.ref x0), .val (.ref x1)] [] := by first | (simp [entryFrame, mkF, argsToLocals, Value.category]; done) | rfl
def own_Q10_1 (Z : State) (a_1 : Addr) (a_2 : Addr) (ar : Addr) (g : Nat → Value) (h0 : Heap) (n0 : Nat) (v : Option Value) (h : Heap) (L : List Loc) : Prop := v = some (.int (1 : Int32)) ∧ Fr n0 L ∧ Keep h0 h [a_1, ar] ∧ Exa Z h a_1 "java/util/ArrayDeque" ∧ Fld Z h a_1 "java/util/ArrayDeque" "elements" "[Ljava/lang/Object;" (.ref ar) ∧ Fld Z h a_1 "java/util/ArrayDeque" "head" "I" (.int (1 : Int32)) ∧ Fld Z h a_1 "java/util/ArrayDeque" "tail" "I" (.int (2 : Int32)) ∧ own_AV Z h ar (.object "java/lang/Object") (17 : Int32) (own_upd g 1 (.ref a_2))
set_option maxRecDepth 65536 in
set_option maxHeartbeats 40000000 in
theorem own_rm10_1 (l : Launch) (Z : State) (a0 : Array Value) (hw : ∀ d ∈ tables_1, d.before a0 Z = true) (ws : List Jvm.Cond) (a_1 : Addr) (a_2 : Addr) (ar : Addr) (g : Nat → Value) (h0 : Heap) (n0 : Nat) (Z0 : n0 ≤ h0.size) (pr_E_a_1 : Exa Z h0 a_1 "java/util/ArrayDeque") (pr_F_a_1_elements : Fld Z h0 a_1 "java/util/ArrayDeque" "elements" "[Ljava/lang/Object;" (.ref ar)) (pr_F_a_1_head : Fld Z h0 a_1 "java/util/ArrayDeque" "head" "I" (.int (1 : Int32))) (pr_F_a_1_tail : Fld Z h0 a_1 "java/util/ArrayDeque" "tail" "I" (.int (1 : Int32))) (pr_A_ar : own_AV Z h0 ar (.object "java/lang/Object") (17 : Int32) g) (pr_O_ar : own_OA Z h0 ar "java/lang/Object") (pr_E_a_2 : Exa Z h0 a_2 "com/example/fencepost/fencepost/connector/SlotConfirmation$Transaction") (ho_ : own_lts [a_1, ar, a_2]) (gw_a_1 : n0 ≤ a_1) (gw_ar : n0 ≤ ar) :
    MetFree l (⟨"java/util/ArrayDeque", "add", "(Ljava/lang/Object;)Z"⟩ : MethodName) (head1 (Jvm.Cond.code (⟨"java/util/ArrayDeque", "add", "(Ljava/lang/Object;)Z"⟩ : MethodName) jdk_21_method_28_code 2 (some .boolean) :: ws) ({ frames := 2, cells := 0, slots := 0, locals := 29 } : Room)) (fun a U => a = #[(.ref a_1), (.ref a_2)] ∧ Z.Warmed39 U.vm ∧ U.heap = h0) (fun _ _ _ _ _ => True) (fun _ U o U' => ∃ v L, o = .returned v ∧ own_Q10_1 Z a_1 a_2 ar g h0 n0 v U'.heap L ∧ FrameEnd U o U' L ({ frames := 2, cells := 0, slots := 0, locals := 29 } : Room).cells ({ frames := 2, cells := 0, slots := 0, locals := 29 } : Room).slots) := by
  refine MetFree.of_bodySF (plainFor_of_name own_pn0) hisR ?_
  intro p e s m args below meth c s₁ Bd hml0 hP hK
  obtain ⟨rfl, hZ, hh⟩ := hP
  have hx := Bd.exec
  have hby := Bd.bytes
  have hml : c.maxLocals = 2 := hml0
  have hown : s.vm.findClass "java/util/ArrayDeque" = some m.cls := findClass_of_methodNamed Bd.named
  have hnm := (name_of_methodNamed Bd.named Bd.method).1
  have X0 : Stand p l e ({ frames := 2, cells := 0, slots := 0, locals := 29 } : Room) s m #[(.ref a_1), (.ref a_2)] below meth c s₁ [] 0 0 := Stand.of_body Bd
  have e0 : s₁.heap = h0 := by rw [← hh, Bd.state]; rfl
  have N0 := Fr.nil n0
  have z0 : n0 ≤ h0.size := Z0
  have z1 := own_lt pr_E_a_1.lt
  have z2 := own_lt pr_F_a_1_elements.lt
  have z3 := own_lt pr_F_a_1_head.lt
  have z4 := own_lt pr_F_a_1_tail.lt
  have z5 := own_lt pr_A_ar.lt
  have z6 := own_lt pr_E_a_2.lt
  have ho7 := ho_
  simp only [own_lts, and_true] at ho7
  have K0 : Keep h0 h0 [a_1, ar] := Keep.refl h0 _
  show own_Go p.tables e below (fun t o => t.status = .running ∧ Ended t below o ∧ ∃ v L, o = .returned v ∧ own_Q10_1 Z a_1 a_2 ar g h0 n0 v t.heap L ∧ FrameEnd s o t L ({ frames := 2, cells := 0, slots := 0, locals := 29 } : Room).cells ({ frames := 2, cells := 0, slots := 0, locals := 29 } : Room).slots) s₁ (entryFrame m #[(.ref a_1), (.ref a_2)] 2)
  rw [own_ef_own_rm10_1 m a_1 a_2]
  show own_Go _ _ _ _ s₁ (mkF m 0 #[.val (.ref a_1), .val (.ref a_2)] [])
  refine own_go (fun _ k => XS.aloadN X0.here hx rfl (hb hby own_d10_0) rfl rfl k) ?_
  show own_Go _ _ _ _ s₁ (mkF m 1 #[.val (.ref a_1), .val (.ref a_2)] [(.ref a_1)])
  refine own_go (fun _ k => XS.aloadN X0.here hx rfl (hb hby own_d10_1) rfl rfl k) ?_
  show own_Go _ _ _ _ s₁ (mkF m 2 #[.val (.ref a_1), .val (.ref a_2)] [(.ref a_2), (.ref a_1)])
  obtain ⟨cq8, kq8, q8a, q8b, q8c⟩ := isOf hZ e0 pr_E_a_1
  obtain ⟨_, _, ⟨T8, L8, k8, n8⟩, -, X8, ⟨Lc8, hQ8, l8, y8, z8⟩, st8⟩ := X0.virtualBack hx (y := (⟨"java/util/ArrayDeque", "addLast", "(Ljava/lang/Object;)V"⟩ : MethodName)) (z := (⟨"java/util/ArrayDeque", "addLast", "(Ljava/lang/Object;)V"⟩ : MethodName)) hown (mvT hZ (hw _ (List.mem_of_getElem? (i := 65) rfl))) (mvT hZ (hw _ (List.mem_of_getElem? (i := 66) rfl))) (notFace_of_selects (args := #[]) (mvT hZ (hw _ (List.mem_of_getElem? (i := 68) rfl)))) (mvT hZ (hw _ (List.mem_of_getElem? (i := 68) rfl))) (mvT hZ (hw _ (List.mem_of_getElem? (i := 67) rfl))) (by decide) (backOf (W := 0) (own_rm11_1 l Z a0 hw [] a_1 a_2 ar g h0 n0 (by omega) pr_E_a_1 pr_F_a_1_elements pr_F_a_1_head pr_F_a_1_tail pr_A_ar pr_O_ar pr_E_a_2 (by simp only [own_lts, and_true]; omega) (by omega) (by omega)) hZ (hw _ (List.mem_of_getElem? (i := 69) rfl)) (hw _ (List.mem_of_getElem? (i := 11) rfl)) (by decide) (by decide)) q8a q8c (g := (mkF m 2 #[.val (.ref a_1), .val (.ref a_2)] [(.ref a_2), (.ref a_1)])) rfl (by rw [hml]; rfl) (Steps.refl _) (argsL := [(.ref a_2)]) (rest := []) (lenOf own_pd2 rfl) rfl (by show 2 * 0 + _ ≤ _; exact Nat.le_of_eq rfl) (hb hby own_d10_2) (fun _ _ => ⟨rfl, e0, (by decide : 0 + 0 ≤ _), (by decide : 0 + 0 ≤ _)⟩)
  dsimp only [Pt.U, Pt.locs, Pt.cells, Pt.slots] at X8 l8 y8 z8 st8 hQ8
  have y8 : k8 = 0 := y8
  have z8 : n8 = 0 := z8
  obtain ⟨rfl, N8q, K8q, f9, f10, f11, f12, f13⟩ := hQ8
  have N8 : Fr n0 L8 := by rw [l8]; exact Fr.app N0 N8q
  have z14 := K8q.1
  have K8 : Keep h0 T8.heap [a_1, ar] := K0.trans K8q (allS (Or.inl (List.mem_of_getElem? (i := 0) rfl)) (allS (Or.inl (List.mem_of_getElem? (i := 1) rfl)) all0))
  have z15 := own_lt f9.lt
  have z16 := own_lt f10.lt
  have z17 := own_lt f11.lt
  have z18 := own_lt f12.lt
  have z19 := own_lt f13.lt
  refine own_go (fun _ k => st8.trans k) ?_
  show own_Go _ _ _ _ T8 (mkF m 5 #[.val (.ref a_1), .val (.ref a_2)] [])
  refine own_go (fun _ k => XS.iconst X8.here hx rfl (hb hby own_d10_5) k) ?_
  show own_Go _ _ _ _ T8 (mkF m 6 #[.val (.ref a_1), .val (.ref a_2)] [(.int (1 : Int32))])
  obtain ⟨fs, hr, hrun, hended, hW, hsame⟩ := X8.leave (v := some (.int (1 : Int32))) (fun h => by rw [Bd.returns] at h; cases h)
  refine ⟨_, _, retOut X8 hx Bd.returns rfl (Or.inl ⟨rfl, Or.inr (Or.inl rfl), _, rfl⟩) (hb hby own_d10_6) hr, hrun, hended, _, _, rfl, ?_, ⟨_, rfl⟩, hW, hsame.mono (by rw [y8]; decide) (by rw [z8]; decide)⟩
  exact ⟨rfl, N8, K8, f9, f10, f11, f12, f13⟩
theorem own_d19_0 : decode jdk_21_method_20_code 0 = .ok (.aload_n 0, 1) := by decide +kernel
theorem own_d19_1 : decode jdk_21_method_20_code 1 = .ok (.getfield 3, 3) := by decide +kernel
theorem own_d19_4 : decode jdk_21_method_20_code 4 = .ok (.dup, 1) := by decide +kernel
theorem own_d19_5 : decode jdk_21_method_20_code 5 = .ok (.astore_n 1, 1) := by decide +kernel
theorem own_d19_6 : decode jdk_21_method_20_code 6 = .ok (.aload_n 0, 1) := by decide +kernel
theorem own_d19_7 : decode jdk_21_method_20_code 7 = .ok (.getfield 24, 3) := by decide +kernel
theorem own_d19_10 : decode jdk_21_method_20_code 10 = .ok (.dup, 1) := by decide +kernel
theorem own_d19_11 : decode jdk_21_method_20_code 11 = .ok (.istore_n 2, 1) := by decide +kernel
theorem own_d19_12 : decode jdk_21_method_20_code 12 = .ok (.invokestatic 103, 3) := by decide +kernel
theorem own_d19_15 : decode jdk_21_method_20_code 15 = .ok (.astore_n 3, 1) := by decide +kernel
theorem own_d19_16 : decode jdk_21_method_20_code 16 = .ok (.aload_n 3, 1) := by decide +kernel
theorem own_d19_17 : decode jdk_21_method_20_code 17 = .ok (.ifnull 17, 3) := by decide +kernel
theorem own_d19_20 : decode jdk_21_method_20_code 20 = .ok (.aload_n 1, 1) := by decide +kernel
theorem own_d19_21 : decode jdk_21_method_20_code 21 = .ok (.iload_n 2, 1) := by decide +kernel
theorem own_d19_22 : decode jdk_21_method_20_code 22 = .ok (.aconst_null, 1) := by decide +kernel
theorem own_d19_23 : decode jdk_21_method_20_code 23 = .ok (.aastore, 1) := by decide +kernel
theorem own_d19_24 : decode jdk_21_method_20_code 24 = .ok (.aload_n 0, 1) := by decide +kernel
theorem own_d19_25 : decode jdk_21_method_20_code 25 = .ok (.iload_n 2, 1) := by decide +kernel
theorem own_d19_26 : decode jdk_21_method_20_code 26 = .ok (.aload_n 1, 1) := by decide +kernel
theorem own_d19_27 : decode jdk_21_method_20_code 27 = .ok (.arraylength, 1) := by decide +kernel
theorem own_d19_28 : decode jdk_21_method_20_code 28 = .ok (.invokestatic 74, 3) := by decide +kernel
theorem own_d19_31 : decode jdk_21_method_20_code 31 = .ok (.putfield 24, 3) := by decide +kernel
theorem own_d19_34 : decode jdk_21_method_20_code 34 = .ok (.aload_n 3, 1) := by decide +kernel
theorem own_d19_35 : decode jdk_21_method_20_code 35 = .ok (.areturn, 1) := by decide +kernel
theorem own_ef_own_rm19_0 (m : MethodId) (x0 : Addr) : entryFrame m #[(.ref x0)] 4 = mkF m 0 #[.val (.ref x0), .unset, .unset, .unset] [] := by first | (simp [entryFrame, mkF, argsToLocals, Value.category]; done) | rfl
def own_Q19_0 (Z : State) (a_1 : Addr) (ar : Addr) (g : Nat → Value) (x : Addr) (h0 : Heap) (n0 : Nat) (v : Option Value) (h : Heap) (L : List Loc) : Prop := v = some (.ref x) ∧ Fr n0 L ∧ Keep h0 h [a_1, ar] ∧ Exa Z h a_1 "java/util/ArrayDeque" ∧ Fld Z h a_1 "java/util/ArrayDeque" "elements" "[Ljava/lang/Object;" (.ref ar) ∧ Fld Z h a_1 "java/util/ArrayDeque" "head" "I" (.int (1 : Int32)) ∧ Fld Z h a_1 "java/util/ArrayDeque" "tail" "I" (.int (1 : Int32)) ∧ own_AV Z h ar (.object "java/lang/Object") (17 : Int32) (own_upd g 0 .null)
set_option maxRecDepth 65536 in
set_option maxHeartbeats 40000000 in
theorem own_rm19_0 (l : Launch) (Z : State) (a0 : Array Value) (hw : ∀ d ∈ tables_1, d.before a0 Z = true) (ws : List Jvm.Cond) (a_1 : Addr) (ar : Addr) (g : Nat → Value) (x : Addr) (h0 : Heap) (n0 : Nat) (Z0 : n0 ≤ h0.size) (pr_E_a_1 : Exa Z h0 a_1 "java/util/ArrayDeque") (pr_F_a_1_elements : Fld Z h0 a_1 "java/util/ArrayDeque" "elements" "[Ljava/lang/Object;" (.ref ar)) (pr_F_a_1_head : Fld Z h0 a_1 "java/util/ArrayDeque" "head" "I" (.int (0 : Int32))) (pr_F_a_1_tail : Fld Z h0 a_1 "java/util/ArrayDeque" "tail" "I" (.int (1 : Int32))) (pr_A_ar : own_AV Z h0 ar (.object "java/lang/Object") (17 : Int32) g) (hg0 : g 0 = .ref x) (ho_ : own_lts [a_1, ar]) (gw_a_1 : n0 ≤ a_1) (gw_ar : n0 ≤ ar) :
    MetFree l (⟨"java/util/ArrayDeque", "pollFirst", "()Ljava/lang/Object;"⟩ : MethodName) (head1 (Jvm.Cond.code (⟨"java/util/ArrayDeque", "pollFirst", "()Ljava/lang/Object;"⟩ : MethodName) jdk_21_method_20_code 4 (some (.object "java/lang/Object")) :: ws) ({ frames := 1, cells := 0, slots := 0, locals := 14 } : Room)) (fun a U => a = #[(.ref a_1)] ∧ Z.Warmed39 U.vm ∧ U.heap = h0) (fun _ _ _ _ _ => True) (fun _ U o U' => ∃ v L, o = .returned v ∧ own_Q19_0 Z a_1 ar g x h0 n0 v U'.heap L ∧ FrameEnd U o U' L ({ frames := 1, cells := 0, slots := 0, locals := 14 } : Room).cells ({ frames := 1, cells := 0, slots := 0, locals := 14 } : Room).slots) := by
  refine MetFree.of_bodySF (plainFor_of_name own_pn0) hisR ?_
  intro p e s m args below meth c s₁ Bd hml0 hP hK
  obtain ⟨rfl, hZ, hh⟩ := hP
  have hx := Bd.exec
  have hby := Bd.bytes
  have hml : c.maxLocals = 4 := hml0
  have hown : s.vm.findClass "java/util/ArrayDeque" = some m.cls := findClass_of_methodNamed Bd.named
  have hnm := (name_of_methodNamed Bd.named Bd.method).1
  have X0 : Stand p l e ({ frames := 1, cells := 0, slots := 0, locals := 14 } : Room) s m #[(.ref a_1)] below meth c s₁ [] 0 0 := Stand.of_body Bd
  have e0 : s₁.heap = h0 := by rw [← hh, Bd.state]; rfl
  have N0 := Fr.nil n0
  have z0 : n0 ≤ h0.size := Z0
  have z1 := own_lt pr_E_a_1.lt
  have z2 := own_lt pr_F_a_1_elements.lt
  have z3 := own_lt pr_F_a_1_head.lt
  have z4 := own_lt pr_F_a_1_tail.lt
  have z5 := own_lt pr_A_ar.lt
  have ho6 := ho_
  simp only [own_lts, and_true] at ho6
  have K0 : Keep h0 h0 [a_1, ar] := Keep.refl h0 _
  show own_Go p.tables e below (fun t o => t.status = .running ∧ Ended t below o ∧ ∃ v L, o = .returned v ∧ own_Q19_0 Z a_1 ar g x h0 n0 v t.heap L ∧ FrameEnd s o t L ({ frames := 1, cells := 0, slots := 0, locals := 14 } : Room).cells ({ frames := 1, cells := 0, slots := 0, locals := 14 } : Room).slots) s₁ (entryFrame m #[(.ref a_1)] 4)
  rw [own_ef_own_rm19_0 m a_1]
  show own_Go _ _ _ _ s₁ (mkF m 0 #[.val (.ref a_1), .unset, .unset, .unset] [])
  refine own_go (fun _ k => XS.aloadN X0.here hx rfl (hb hby own_d19_0) rfl rfl k) ?_
  show own_Go _ _ _ _ s₁ (mkF m 1 #[.val (.ref a_1), .unset, .unset, .unset] [(.ref a_1)])
  obtain ⟨T7, X7, e7, st7⟩ := getF X0 hx hZ hown (host := "") (Or.inl (hw _ (List.mem_of_getElem? (i := 24) rfl))) Via.refl e0 pr_F_a_1_elements (g := (mkF m 1 #[.val (.ref a_1), .unset, .unset, .unset] [(.ref a_1)])) rfl rfl (hb hby own_d19_1)
  refine own_go (fun _ k => st7 _ k) ?_
  show own_Go _ _ _ _ T7 (mkF m 4 #[.val (.ref a_1), .unset, .unset, .unset] [(.ref ar)])
  refine own_go (fun _ k => XS.dup X7.here hx rfl (hb hby own_d19_4) rfl rfl k) ?_
  show own_Go _ _ _ _ T7 (mkF m 5 #[.val (.ref a_1), .unset, .unset, .unset] [(.ref ar), (.ref ar)])
  refine own_go (fun _ k => XS.astoreN X7.here hx rfl (hb hby own_d19_5) rfl rfl (l' := #[.val (.ref a_1), .val (.ref ar), .unset, .unset]) rfl k) ?_
  show own_Go _ _ _ _ T7 (mkF m 6 #[.val (.ref a_1), .val (.ref ar), .unset, .unset] [(.ref ar)])
  refine own_go (fun _ k => XS.aloadN X7.here hx rfl (hb hby own_d19_6) rfl rfl k) ?_
  show own_Go _ _ _ _ T7 (mkF m 7 #[.val (.ref a_1), .val (.ref ar), .unset, .unset] [(.ref a_1), (.ref ar)])
  obtain ⟨T8, X8, e8, st8⟩ := getF X7 hx hZ hown (host := "") (Or.inl (hw _ (List.mem_of_getElem? (i := 71) rfl))) Via.refl e7 pr_F_a_1_head (g := (mkF m 7 #[.val (.ref a_1), .val (.ref ar), .unset, .unset] [(.ref a_1), (.ref ar)])) rfl rfl (hb hby own_d19_7)
  refine own_go (fun _ k => st8 _ k) ?_
  show own_Go _ _ _ _ T8 (mkF m 10 #[.val (.ref a_1), .val (.ref ar), .unset, .unset] [(.int (0 : Int32)), (.ref ar)])
  refine own_go (fun _ k => XS.dup X8.here hx rfl (hb hby own_d19_10) rfl rfl k) ?_
  show own_Go _ _ _ _ T8 (mkF m 11 #[.val (.ref a_1), .val (.ref ar), .unset, .unset] [(.int (0 : Int32)), (.int (0 : Int32)), (.ref ar)])
  refine own_go (fun _ k => XS.istoreN X8.here hx rfl (hb hby own_d19_11) rfl (l' := #[.val (.ref a_1), .val (.ref ar), .val (.int (0 : Int32)), .unset]) rfl k) ?_
  show own_Go _ _ _ _ T8 (mkF m 12 #[.val (.ref a_1), .val (.ref ar), .val (.int (0 : Int32)), .unset] [(.int (0 : Int32)), (.ref ar)])
  obtain ⟨_, _, ⟨T9, L9, k9, n9⟩, -, X9, ⟨Lc9, hQ9, l9, y9, z9⟩, st9⟩ := Jvm.LawKit.callS X8 hx (y := (⟨"java/util/ArrayDeque", "elementAt", "([Ljava/lang/Object;I)Ljava/lang/Object;"⟩ : MethodName)) hown (mvT hZ (hw _ (List.mem_of_getElem? (i := 43) rfl))) (mvT hZ (hw _ (List.mem_of_getElem? (i := 44) rfl))) (mvT hZ (hw _ (List.mem_of_getElem? (i := 11) rfl))) (mvT hZ (hw _ (List.mem_of_getElem? (i := 45) rfl))) (by decide) (backOf (W := 0) (own_rm8r0 l Z a0 hw [] ar g x h0 n0 (by omega) pr_A_ar hg0) hZ (hw _ (List.mem_of_getElem? (i := 45) rfl)) (hw _ (List.mem_of_getElem? (i := 11) rfl)) (by decide) (by decide)) (g := (mkF m 12 #[.val (.ref a_1), .val (.ref ar), .val (.int (0 : Int32)), .unset] [(.int (0 : Int32)), (.ref ar)])) rfl (by rw [hml]; rfl) (argsL := [(.ref ar), (.int (0 : Int32))]) (rest := []) (lenOf own_pd1 rfl) rfl (by show 2 * 0 + _ ≤ _; exact Nat.le_of_eq rfl) (hb hby own_d19_12) (fun _ _ => ⟨rfl, e8, (by decide : 0 + 0 ≤ _), (by decide : 0 + 0 ≤ _)⟩)
  dsimp only [Pt.U, Pt.locs, Pt.cells, Pt.slots] at X9 l9 y9 z9 st9 hQ9
  have y9 : k9 = 0 := y9
  have z9 : n9 = 0 := z9
  obtain ⟨rfl, N9q, e9⟩ := hQ9
  have N9 : Fr n0 L9 := by rw [l9]; exact Fr.app N0 N9q
  refine own_go (fun _ k => st9 _ k) ?_
  show own_Go _ _ _ _ T9 (mkF m 15 #[.val (.ref a_1), .val (.ref ar), .val (.int (0 : Int32)), .unset] [(.ref x)])
  refine own_go (fun _ k => XS.astoreN X9.here hx rfl (hb hby own_d19_15) rfl rfl (l' := #[.val (.ref a_1), .val (.ref ar), .val (.int (0 : Int32)), .val (.ref x)]) rfl k) ?_
  show own_Go _ _ _ _ T9 (mkF m 16 #[.val (.ref a_1), .val (.ref ar), .val (.int (0 : Int32)), .val (.ref x)] [])
  refine own_go (fun _ k => XS.aloadN X9.here hx rfl (hb hby own_d19_16) rfl rfl k) ?_
  show own_Go _ _ _ _ T9 (mkF m 17 #[.val (.ref a_1), .val (.ref ar), .val (.int (0 : Int32)), .val (.ref x)] [(.ref x)])
  refine own_go (fun _ k => XS.ifnullNo X9.here hx rfl (hb hby own_d19_17) rfl k) ?_
  show own_Go _ _ _ _ T9 (mkF m 20 #[.val (.ref a_1), .val (.ref ar), .val (.int (0 : Int32)), .val (.ref x)] [])
  refine own_go (fun _ k => XS.aloadN X9.here hx rfl (hb hby own_d19_20) rfl rfl k) ?_
  show own_Go _ _ _ _ T9 (mkF m 21 #[.val (.ref a_1), .val (.ref ar), .val (.int (0 : Int32)), .val (.ref x)] [(.ref ar)])
  refine own_go (fun _ k => XS.iloadN X9.here hx rfl (hb hby own_d19_21) rfl k) ?_
  show own_Go _ _ _ _ T9 (mkF m 22 #[.val (.ref a_1), .val (.ref ar), .val (.int (0 : Int32)), .val (.ref x)] [(.int (0 : Int32)), (.ref ar)])
  refine own_go (fun _ k => XS.aconstNull X9.here hx rfl (hb hby own_d19_22) k) ?_
  show own_Go _ _ _ _ T9 (mkF m 23 #[.val (.ref a_1), .val (.ref ar), .val (.int (0 : Int32)), .val (.ref x)] [.null, (.int (0 : Int32)), (.ref ar)])
  obtain ⟨q10, c10, R10, s10, t10⟩ := id pr_A_ar
  have hin10 : ¬ ((0 : Int32) < 0 ∨ c10.slots.size ≤ ((0 : Int32)).toNatClampNeg) := inb_of s10 ⟨by decide, by decide⟩
  obtain ⟨T11, h11, X11, e11, W11, st11⟩ := stR X9 hx hZ e9 R10 (j := (0 : Int32)) hin10 rfl (Or.inl rfl) (g := (mkF m 23 #[.val (.ref a_1), .val (.ref ar), .val (.int (0 : Int32)), .val (.ref x)] [.null, (.int (0 : Int32)), (.ref ar)])) rfl rfl (hb hby own_d19_23)
  have V11 : own_AV Z h11 ar (.object "java/lang/Object") (17 : Int32) (own_upd g 0 .null) := own_AV.set (k := 0) pr_A_ar W11 (by decide)
  have z12 := W11.size
  have K11 : Keep h0 h11 [a_1, ar] := K0.wr W11 (Or.inl (List.mem_of_getElem? (i := 1) rfl))
  have N11 := Fr.snoc X11 N9 (by omega : n0 ≤ ar)
  refine own_go (fun _ k => st11 _ k) ?_
  show own_Go _ _ _ _ T11 (mkF m 24 #[.val (.ref a_1), .val (.ref ar), .val (.int (0 : Int32)), .val (.ref x)] [])
  refine own_go (fun _ k => XS.aloadN X11.here hx rfl (hb hby own_d19_24) rfl rfl k) ?_
  show own_Go _ _ _ _ T11 (mkF m 25 #[.val (.ref a_1), .val (.ref ar), .val (.int (0 : Int32)), .val (.ref x)] [(.ref a_1)])
  refine own_go (fun _ k => XS.iloadN X11.here hx rfl (hb hby own_d19_25) rfl k) ?_
  show own_Go _ _ _ _ T11 (mkF m 26 #[.val (.ref a_1), .val (.ref ar), .val (.int (0 : Int32)), .val (.ref x)] [(.int (0 : Int32)), (.ref a_1)])
  refine own_go (fun _ k => XS.aloadN X11.here hx rfl (hb hby own_d19_26) rfl rfl k) ?_
  show own_Go _ _ _ _ T11 (mkF m 27 #[.val (.ref a_1), .val (.ref ar), .val (.int (0 : Int32)), .val (.ref x)] [(.ref ar), (.int (0 : Int32)), (.ref a_1)])
  obtain ⟨q13, c13, R13, s13, t13⟩ := id V11
  refine own_go (fun _ k => X11.arraylength hx (by rw [e11]; exact R13.1) (State.isArrayOf_alike hZ.alike R13.2.1) (g := (mkF m 27 #[.val (.ref a_1), .val (.ref ar), .val (.int (0 : Int32)), .val (.ref x)] [(.ref ar), (.int (0 : Int32)), (.ref a_1)])) rfl rfl (hb hby own_d19_27) _ k) ?_
  rw [len_of s13 q13]
  show own_Go _ _ _ _ T11 (mkF m 28 #[.val (.ref a_1), .val (.ref ar), .val (.int (0 : Int32)), .val (.ref x)] [(.int (17 : Int32)), (.int (0 : Int32)), (.ref a_1)])
  obtain ⟨_, _, ⟨T14, L14, k14, n14⟩, -, X14, ⟨Lc14, hQ14, l14, y14, z14⟩, st14⟩ := Jvm.LawKit.callS X11 hx (y := (⟨"java/util/ArrayDeque", "inc", "(II)I"⟩ : MethodName)) hown (mvT hZ (hw _ (List.mem_of_getElem? (i := 73) rfl))) (mvT hZ (hw _ (List.mem_of_getElem? (i := 74) rfl))) (mvT hZ (hw _ (List.mem_of_getElem? (i := 11) rfl))) (mvT hZ (hw _ (List.mem_of_getElem? (i := 75) rfl))) (by decide) (backOf (W := 1) (own_rm12_0 l Z a0 hw []   h11 n0 (by omega) ) hZ (hw _ (List.mem_of_getElem? (i := 75) rfl)) (hw _ (List.mem_of_getElem? (i := 11) rfl)) (by decide) (by decide)) (g := (mkF m 28 #[.val (.ref a_1), .val (.ref ar), .val (.int (0 : Int32)), .val (.ref x)] [(.int (17 : Int32)), (.int (0 : Int32)), (.ref a_1)])) rfl (by rw [hml]; rfl) (argsL := [(.int (0 : Int32)), (.int (17 : Int32))]) (rest := [(.ref a_1)]) (lenOf own_pd0 rfl) rfl (by show 2 * 0 + _ ≤ _; exact Nat.le_of_eq rfl) (hb hby own_d19_28) (fun _ _ => ⟨rfl, e11, (by show k9 + _ ≤ _; rw [y9]; decide), (by show n9 + _ ≤ _; rw [z9]; decide)⟩)
  dsimp only [Pt.U, Pt.locs, Pt.cells, Pt.slots] at X14 l14 y14 z14 st14 hQ14
  have y14 : k14 = 0 := own_addeq y14 (congrArg (fun q => q) y9) rfl
  have z14 : n14 = 0 := own_addeq z14 (congrArg (fun q => q) z9) rfl
  obtain ⟨rfl, N14q, e14⟩ := hQ14
  have N14 : Fr n0 L14 := by rw [l14]; exact Fr.app N11 N14q
  refine own_go (fun _ k => st14 _ k) ?_
  show own_Go _ _ _ _ T14 (mkF m 31 #[.val (.ref a_1), .val (.ref ar), .val (.int (0 : Int32)), .val (.ref x)] [(.int (1 : Int32)), (.ref a_1)])
  have f15 : Exa Z h11 a_1 "java/util/ArrayDeque" := (pr_E_a_1.wr W11)
  have f16 : Fld Z h11 a_1 "java/util/ArrayDeque" "head" "I" (.int (0 : Int32)) := (pr_F_a_1_head.other W11 (Or.inl (own_ne (by omega))))
  obtain ⟨T17, h17, X17, e17, W17, st17⟩ := putF X14 hx hZ hown (host := "") (Or.inl (hw _ (List.mem_of_getElem? (i := 71) rfl))) Via.refl e14 f16 f15 (Or.inl (hw _ (List.mem_of_getElem? (i := 72) rfl))) (hw _ (List.mem_of_getElem? (i := 10) rfl)) (ty := .int) (by decide) rfl rfl (g := (mkF m 31 #[.val (.ref a_1), .val (.ref ar), .val (.int (0 : Int32)), .val (.ref x)] [(.int (1 : Int32)), (.ref a_1)])) rfl rfl (hb hby own_d19_31)
  have z18 := W17.size
  have K17 : Keep h0 h17 [a_1, ar] := K11.wr W17 (Or.inl (List.mem_of_getElem? (i := 0) rfl))
  have N17 := Fr.snoc X17 N14 (by omega : n0 ≤ a_1)
  have Fw17 : Fld Z h17 a_1 "java/util/ArrayDeque" "head" "I" (.int (1 : Int32)) := Fld.same W17 f16
  refine own_go (fun _ k => st17 _ k) ?_
  show own_Go _ _ _ _ T17 (mkF m 34 #[.val (.ref a_1), .val (.ref ar), .val (.int (0 : Int32)), .val (.ref x)] [])
  refine own_go (fun _ k => XS.aloadN X17.here hx rfl (hb hby own_d19_34) rfl rfl k) ?_
  show own_Go _ _ _ _ T17 (mkF m 35 #[.val (.ref a_1), .val (.ref ar), .val (.int (0 : Int32)), .val (.ref x)] [(.ref x)])
  obtain ⟨fs, hr, hrun, hended, hW, hsame⟩ := X17.leave (v := some (.ref x)) (fun h => by rw [Bd.returns] at h; cases h)
  refine ⟨_, _, retOut X17 hx Bd.returns rfl (Or.inr (Or.inr (Or.inr (Or.inr ⟨rfl, rfl, rfl⟩)))) (hb hby own_d19_35) hr, hrun, hended, _, _, rfl, ?_, ⟨_, rfl⟩, hW, hsame.mono (by rw [y14]; decide) (by rw [z14]; decide)⟩
  show own_Q19_0 Z a_1 ar g x h0 n0 _ T17.heap _
  rw [e17]
  have f20 : Exa Z h17 a_1 "java/util/ArrayDeque" := (f15.wr W17)
  have f21 : Fld Z h17 a_1 "java/util/ArrayDeque" "elements" "[Ljava/lang/Object;" (.ref ar) := ((pr_F_a_1_elements.other W11 (Or.inl (own_ne (by omega)))).other W17 (Or.inr (slot_ne (Or.inl (hw _ (List.mem_of_getElem? (i := 25) rfl))) (Or.inl (hw _ (List.mem_of_getElem? (i := 72) rfl))) (by decide) (t := (.array (.object "java/lang/Object"))) (t' := .int) (by decide) (by decide))))
  have f22 : Fld Z h17 a_1 "java/util/ArrayDeque" "tail" "I" (.int (1 : Int32)) := ((pr_F_a_1_tail.other W11 (Or.inl (own_ne (by omega)))).other W17 (Or.inr (slot_ne (Or.inl (hw _ (List.mem_of_getElem? (i := 39) rfl))) (Or.inl (hw _ (List.mem_of_getElem? (i := 72) rfl))) (by decide) (t := .int) (t' := .int) (by decide) (by decide))))
  have f23 : own_AV Z h17 ar (.object "java/lang/Object") (17 : Int32) (own_upd g 0 .null) := (V11.other W17 (own_ne (by omega)))
  exact ⟨rfl, N17, K17, f20, f21, Fw17, f22, f23⟩
theorem own_ef_own_rm19_1 (m : MethodId) (x0 : Addr) : entryFrame m #[(.ref x0)] 4 = mkF m 0 #[.val (.ref x0), .unset, .unset, .unset] [] := by first | (simp [entryFrame, mkF, argsToLocals, Value.category]; done) | rfl
def own_Q19_1 (Z : State) (a_1 : Addr) (ar : Addr) (g : Nat → Value) (x : Addr) (h0 : Heap) (n0 : Nat) (v : Option Value) (h : Heap) (L : List Loc) : Prop := v = some (.ref x) ∧ Fr n0 L ∧ Keep h0 h [a_1, ar] ∧ Exa Z h a_1 "java/util/ArrayDeque" ∧ Fld Z h a_1 "java/util/ArrayDeque" "elements" "[Ljava/lang/Object;" (.ref ar) ∧ Fld Z h a_1 "java/util/ArrayDeque" "head" "I" (.int (2 : Int32)) ∧ Fld Z h a_1 "java/util/ArrayDeque" "tail" "I" (.int (2 : Int32)) ∧ own_AV Z h ar (.object "java/lang/Object") (17 : Int32) (own_upd g 1 .null)
set_option maxRecDepth 65536 in
set_option maxHeartbeats 40000000 in
theorem own_rm19_1 (l : Launch) (Z : State) (a0 : Array Value) (hw : ∀ d ∈ tables_1, d.before a0 Z = true) (ws : List Jvm.Cond) (a_1 : Addr) (ar : Addr) (g : Nat → Value) (x : Addr) (h0 : Heap) (n0 : Nat) (Z0 : n0 ≤ h0.size) (pr_E_a_1 : Exa Z h0 a_1 "java/util/ArrayDeque") (pr_F_a_1_elements : Fld Z h0 a_1 "java/util/ArrayDeque" "elements" "[Ljava/lang/Object;" (.ref ar)) (pr_F_a_1_head : Fld Z h0 a_1 "java/util/ArrayDeque" "head" "I" (.int (1 : Int32))) (pr_F_a_1_tail : Fld Z h0 a_1 "java/util/ArrayDeque" "tail" "I" (.int (2 : Int32))) (pr_A_ar : own_AV Z h0 ar (.object "java/lang/Object") (17 : Int32) g) (hg1 : g 1 = .ref x) (ho_ : own_lts [a_1, ar]) (gw_a_1 : n0 ≤ a_1) (gw_ar : n0 ≤ ar) :
    MetFree l (⟨"java/util/ArrayDeque", "pollFirst", "()Ljava/lang/Object;"⟩ : MethodName) (head1 (Jvm.Cond.code (⟨"java/util/ArrayDeque", "pollFirst", "()Ljava/lang/Object;"⟩ : MethodName) jdk_21_method_20_code 4 (some (.object "java/lang/Object")) :: ws) ({ frames := 1, cells := 0, slots := 0, locals := 14 } : Room)) (fun a U => a = #[(.ref a_1)] ∧ Z.Warmed39 U.vm ∧ U.heap = h0) (fun _ _ _ _ _ => True) (fun _ U o U' => ∃ v L, o = .returned v ∧ own_Q19_1 Z a_1 ar g x h0 n0 v U'.heap L ∧ FrameEnd U o U' L ({ frames := 1, cells := 0, slots := 0, locals := 14 } : Room).cells ({ frames := 1, cells := 0, slots := 0, locals := 14 } : Room).slots) := by
  refine MetFree.of_bodySF (plainFor_of_name own_pn0) hisR ?_
  intro p e s m args below meth c s₁ Bd hml0 hP hK
  obtain ⟨rfl, hZ, hh⟩ := hP
  have hx := Bd.exec
  have hby := Bd.bytes
  have hml : c.maxLocals = 4 := hml0
  have hown : s.vm.findClass "java/util/ArrayDeque" = some m.cls := findClass_of_methodNamed Bd.named
  have hnm := (name_of_methodNamed Bd.named Bd.method).1
  have X0 : Stand p l e ({ frames := 1, cells := 0, slots := 0, locals := 14 } : Room) s m #[(.ref a_1)] below meth c s₁ [] 0 0 := Stand.of_body Bd
  have e0 : s₁.heap = h0 := by rw [← hh, Bd.state]; rfl
  have N0 := Fr.nil n0
  have z0 : n0 ≤ h0.size := Z0
  have z1 := own_lt pr_E_a_1.lt
  have z2 := own_lt pr_F_a_1_elements.lt
  have z3 := own_lt pr_F_a_1_head.lt
  have z4 := own_lt pr_F_a_1_tail.lt
  have z5 := own_lt pr_A_ar.lt
  have ho6 := ho_
  simp only [own_lts, and_true] at ho6
  have K0 : Keep h0 h0 [a_1, ar] := Keep.refl h0 _
  show own_Go p.tables e below (fun t o => t.status = .running ∧ Ended t below o ∧ ∃ v L, o = .returned v ∧ own_Q19_1 Z a_1 ar g x h0 n0 v t.heap L ∧ FrameEnd s o t L ({ frames := 1, cells := 0, slots := 0, locals := 14 } : Room).cells ({ frames := 1, cells := 0, slots := 0, locals := 14 } : Room).slots) s₁ (entryFrame m #[(.ref a_1)] 4)
  rw [own_ef_own_rm19_1 m a_1]
  show own_Go _ _ _ _ s₁ (mkF m 0 #[.val (.ref a_1), .unset, .unset, .unset] [])
  refine own_go (fun _ k => XS.aloadN X0.here hx rfl (hb hby own_d19_0) rfl rfl k) ?_
  show own_Go _ _ _ _ s₁ (mkF m 1 #[.val (.ref a_1), .unset, .unset, .unset] [(.ref a_1)])
  obtain ⟨T7, X7, e7, st7⟩ := getF X0 hx hZ hown (host := "") (Or.inl (hw _ (List.mem_of_getElem? (i := 24) rfl))) Via.refl e0 pr_F_a_1_elements (g := (mkF m 1 #[.val (.ref a_1), .unset, .unset, .unset] [(.ref a_1)])) rfl rfl (hb hby own_d19_1)
  refine own_go (fun _ k => st7 _ k) ?_
  show own_Go _ _ _ _ T7 (mkF m 4 #[.val (.ref a_1), .unset, .unset, .unset] [(.ref ar)])
  refine own_go (fun _ k => XS.dup X7.here hx rfl (hb hby own_d19_4) rfl rfl k) ?_
  show own_Go _ _ _ _ T7 (mkF m 5 #[.val (.ref a_1), .unset, .unset, .unset] [(.ref ar), (.ref ar)])
  refine own_go (fun _ k => XS.astoreN X7.here hx rfl (hb hby own_d19_5) rfl rfl (l' := #[.val (.ref a_1), .val (.ref ar), .unset, .unset]) rfl k) ?_
  show own_Go _ _ _ _ T7 (mkF m 6 #[.val (.ref a_1), .val (.ref ar), .unset, .unset] [(.ref ar)])
  refine own_go (fun _ k => XS.aloadN X7.here hx rfl (hb hby own_d19_6) rfl rfl k) ?_
  show own_Go _ _ _ _ T7 (mkF m 7 #[.val (.ref a_1), .val (.ref ar), .unset, .unset] [(.ref a_1), (.ref ar)])
  obtain ⟨T8, X8, e8, st8⟩ := getF X7 hx hZ hown (host := "") (Or.inl (hw _ (List.mem_of_getElem? (i := 71) rfl))) Via.refl e7 pr_F_a_1_head (g := (mkF m 7 #[.val (.ref a_1), .val (.ref ar), .unset, .unset] [(.ref a_1), (.ref ar)])) rfl rfl (hb hby own_d19_7)
  refine own_go (fun _ k => st8 _ k) ?_
  show own_Go _ _ _ _ T8 (mkF m 10 #[.val (.ref a_1), .val (.ref ar), .unset, .unset] [(.int (1 : Int32)), (.ref ar)])
  refine own_go (fun _ k => XS.dup X8.here hx rfl (hb hby own_d19_10) rfl rfl k) ?_
  show own_Go _ _ _ _ T8 (mkF m 11 #[.val (.ref a_1), .val (.ref ar), .unset, .unset] [(.int (1 : Int32)), (.int (1 : Int32)), (.ref ar)])
  refine own_go (fun _ k => XS.istoreN X8.here hx rfl (hb hby own_d19_11) rfl (l' := #[.val (.ref a_1), .val (.ref ar), .val (.int (1 : Int32)), .unset]) rfl k) ?_
  show own_Go _ _ _ _ T8 (mkF m 12 #[.val (.ref a_1), .val (.ref ar), .val (.int (1 : Int32)), .unset] [(.int (1 : Int32)), (.ref ar)])
  obtain ⟨_, _, ⟨T9, L9, k9, n9⟩, -, X9, ⟨Lc9, hQ9, l9, y9, z9⟩, st9⟩ := Jvm.LawKit.callS X8 hx (y := (⟨"java/util/ArrayDeque", "elementAt", "([Ljava/lang/Object;I)Ljava/lang/Object;"⟩ : MethodName)) hown (mvT hZ (hw _ (List.mem_of_getElem? (i := 43) rfl))) (mvT hZ (hw _ (List.mem_of_getElem? (i := 44) rfl))) (mvT hZ (hw _ (List.mem_of_getElem? (i := 11) rfl))) (mvT hZ (hw _ (List.mem_of_getElem? (i := 45) rfl))) (by decide) (backOf (W := 0) (own_rm8r1 l Z a0 hw [] ar g x h0 n0 (by omega) pr_A_ar hg1) hZ (hw _ (List.mem_of_getElem? (i := 45) rfl)) (hw _ (List.mem_of_getElem? (i := 11) rfl)) (by decide) (by decide)) (g := (mkF m 12 #[.val (.ref a_1), .val (.ref ar), .val (.int (1 : Int32)), .unset] [(.int (1 : Int32)), (.ref ar)])) rfl (by rw [hml]; rfl) (argsL := [(.ref ar), (.int (1 : Int32))]) (rest := []) (lenOf own_pd1 rfl) rfl (by show 2 * 0 + _ ≤ _; exact Nat.le_of_eq rfl) (hb hby own_d19_12) (fun _ _ => ⟨rfl, e8, (by decide : 0 + 0 ≤ _), (by decide : 0 + 0 ≤ _)⟩)
  dsimp only [Pt.U, Pt.locs, Pt.cells, Pt.slots] at X9 l9 y9 z9 st9 hQ9
  have y9 : k9 = 0 := y9
  have z9 : n9 = 0 := z9
  obtain ⟨rfl, N9q, e9⟩ := hQ9
  have N9 : Fr n0 L9 := by rw [l9]; exact Fr.app N0 N9q
  refine own_go (fun _ k => st9 _ k) ?_
  show own_Go _ _ _ _ T9 (mkF m 15 #[.val (.ref a_1), .val (.ref ar), .val (.int (1 : Int32)), .unset] [(.ref x)])
  refine own_go (fun _ k => XS.astoreN X9.here hx rfl (hb hby own_d19_15) rfl rfl (l' := #[.val (.ref a_1), .val (.ref ar), .val (.int (1 : Int32)), .val (.ref x)]) rfl k) ?_
  show own_Go _ _ _ _ T9 (mkF m 16 #[.val (.ref a_1), .val (.ref ar), .val (.int (1 : Int32)), .val (.ref x)] [])
  refine own_go (fun _ k => XS.aloadN X9.here hx rfl (hb hby own_d19_16) rfl rfl k) ?_
  show own_Go _ _ _ _ T9 (mkF m 17 #[.val (.ref a_1), .val (.ref ar), .val (.int (1 : Int32)), .val (.ref x)] [(.ref x)])
  refine own_go (fun _ k => XS.ifnullNo X9.here hx rfl (hb hby own_d19_17) rfl k) ?_
  show own_Go _ _ _ _ T9 (mkF m 20 #[.val (.ref a_1), .val (.ref ar), .val (.int (1 : Int32)), .val (.ref x)] [])
  refine own_go (fun _ k => XS.aloadN X9.here hx rfl (hb hby own_d19_20) rfl rfl k) ?_
  show own_Go _ _ _ _ T9 (mkF m 21 #[.val (.ref a_1), .val (.ref ar), .val (.int (1 : Int32)), .val (.ref x)] [(.ref ar)])
  refine own_go (fun _ k => XS.iloadN X9.here hx rfl (hb hby own_d19_21) rfl k) ?_
  show own_Go _ _ _ _ T9 (mkF m 22 #[.val (.ref a_1), .val (.ref ar), .val (.int (1 : Int32)), .val (.ref x)] [(.int (1 : Int32)), (.ref ar)])
  refine own_go (fun _ k => XS.aconstNull X9.here hx rfl (hb hby own_d19_22) k) ?_
  show own_Go _ _ _ _ T9 (mkF m 23 #[.val (.ref a_1), .val (.ref ar), .val (.int (1 : Int32)), .val (.ref x)] [.null, (.int (1 : Int32)), (.ref ar)])
  obtain ⟨q10, c10, R10, s10, t10⟩ := id pr_A_ar
  have hin10 : ¬ ((1 : Int32) < 0 ∨ c10.slots.size ≤ ((1 : Int32)).toNatClampNeg) := inb_of s10 ⟨by decide, by decide⟩
  obtain ⟨T11, h11, X11, e11, W11, st11⟩ := stR X9 hx hZ e9 R10 (j := (1 : Int32)) hin10 rfl (Or.inl rfl) (g := (mkF m 23 #[.val (.ref a_1), .val (.ref ar), .val (.int (1 : Int32)), .val (.ref x)] [.null, (.int (1 : Int32)), (.ref ar)])) rfl rfl (hb hby own_d19_23)
  have V11 : own_AV Z h11 ar (.object "java/lang/Object") (17 : Int32) (own_upd g 1 .null) := own_AV.set (k := 1) pr_A_ar W11 (by decide)
  have z12 := W11.size
  have K11 : Keep h0 h11 [a_1, ar] := K0.wr W11 (Or.inl (List.mem_of_getElem? (i := 1) rfl))
  have N11 := Fr.snoc X11 N9 (by omega : n0 ≤ ar)
  refine own_go (fun _ k => st11 _ k) ?_
  show own_Go _ _ _ _ T11 (mkF m 24 #[.val (.ref a_1), .val (.ref ar), .val (.int (1 : Int32)), .val (.ref x)] [])
  refine own_go (fun _ k => XS.aloadN X11.here hx rfl (hb hby own_d19_24) rfl rfl k) ?_
  show own_Go _ _ _ _ T11 (mkF m 25 #[.val (.ref a_1), .val (.ref ar), .val (.int (1 : Int32)), .val (.ref x)] [(.ref a_1)])
  refine own_go (fun _ k => XS.iloadN X11.here hx rfl (hb hby own_d19_25) rfl k) ?_
  show own_Go _ _ _ _ T11 (mkF m 26 #[.val (.ref a_1), .val (.ref ar), .val (.int (1 : Int32)), .val (.ref x)] [(.int (1 : Int32)), (.ref a_1)])
  refine own_go (fun _ k => XS.aloadN X11.here hx rfl (hb hby own_d19_26) rfl rfl k) ?_
  show own_Go _ _ _ _ T11 (mkF m 27 #[.val (.ref a_1), .val (.ref ar), .val (.int (1 : Int32)), .val (.ref x)] [(.ref ar), (.int (1 : Int32)), (.ref a_1)])
  obtain ⟨q13, c13, R13, s13, t13⟩ := id V11
  refine own_go (fun _ k => X11.arraylength hx (by rw [e11]; exact R13.1) (State.isArrayOf_alike hZ.alike R13.2.1) (g := (mkF m 27 #[.val (.ref a_1), .val (.ref ar), .val (.int (1 : Int32)), .val (.ref x)] [(.ref ar), (.int (1 : Int32)), (.ref a_1)])) rfl rfl (hb hby own_d19_27) _ k) ?_
  rw [len_of s13 q13]
  show own_Go _ _ _ _ T11 (mkF m 28 #[.val (.ref a_1), .val (.ref ar), .val (.int (1 : Int32)), .val (.ref x)] [(.int (17 : Int32)), (.int (1 : Int32)), (.ref a_1)])
  obtain ⟨_, _, ⟨T14, L14, k14, n14⟩, -, X14, ⟨Lc14, hQ14, l14, y14, z14⟩, st14⟩ := Jvm.LawKit.callS X11 hx (y := (⟨"java/util/ArrayDeque", "inc", "(II)I"⟩ : MethodName)) hown (mvT hZ (hw _ (List.mem_of_getElem? (i := 73) rfl))) (mvT hZ (hw _ (List.mem_of_getElem? (i := 74) rfl))) (mvT hZ (hw _ (List.mem_of_getElem? (i := 11) rfl))) (mvT hZ (hw _ (List.mem_of_getElem? (i := 75) rfl))) (by decide) (backOf (W := 1) (own_rm12_1 l Z a0 hw []   h11 n0 (by omega) ) hZ (hw _ (List.mem_of_getElem? (i := 75) rfl)) (hw _ (List.mem_of_getElem? (i := 11) rfl)) (by decide) (by decide)) (g := (mkF m 28 #[.val (.ref a_1), .val (.ref ar), .val (.int (1 : Int32)), .val (.ref x)] [(.int (17 : Int32)), (.int (1 : Int32)), (.ref a_1)])) rfl (by rw [hml]; rfl) (argsL := [(.int (1 : Int32)), (.int (17 : Int32))]) (rest := [(.ref a_1)]) (lenOf own_pd0 rfl) rfl (by show 2 * 0 + _ ≤ _; exact Nat.le_of_eq rfl) (hb hby own_d19_28) (fun _ _ => ⟨rfl, e11, (by show k9 + _ ≤ _; rw [y9]; decide), (by show n9 + _ ≤ _; rw [z9]; decide)⟩)
  dsimp only [Pt.U, Pt.locs, Pt.cells, Pt.slots] at X14 l14 y14 z14 st14 hQ14
  have y14 : k14 = 0 := own_addeq y14 (congrArg (fun q => q) y9) rfl
  have z14 : n14 = 0 := own_addeq z14 (congrArg (fun q => q) z9) rfl
  obtain ⟨rfl, N14q, e14⟩ := hQ14
  have N14 : Fr n0 L14 := by rw [l14]; exact Fr.app N11 N14q
  refine own_go (fun _ k => st14 _ k) ?_
  show own_Go _ _ _ _ T14 (mkF m 31 #[.val (.ref a_1), .val (.ref ar), .val (.int (1 : Int32)), .val (.ref x)] [(.int (2 : Int32)), (.ref a_1)])
  have f15 : Exa Z h11 a_1 "java/util/ArrayDeque" := (pr_E_a_1.wr W11)
  have f16 : Fld Z h11 a_1 "java/util/ArrayDeque" "head" "I" (.int (1 : Int32)) := (pr_F_a_1_head.other W11 (Or.inl (own_ne (by omega))))
  obtain ⟨T17, h17, X17, e17, W17, st17⟩ := putF X14 hx hZ hown (host := "") (Or.inl (hw _ (List.mem_of_getElem? (i := 71) rfl))) Via.refl e14 f16 f15 (Or.inl (hw _ (List.mem_of_getElem? (i := 72) rfl))) (hw _ (List.mem_of_getElem? (i := 10) rfl)) (ty := .int) (by decide) rfl rfl (g := (mkF m 31 #[.val (.ref a_1), .val (.ref ar), .val (.int (1 : Int32)), .val (.ref x)] [(.int (2 : Int32)), (.ref a_1)])) rfl rfl (hb hby own_d19_31)
  have z18 := W17.size
  have K17 : Keep h0 h17 [a_1, ar] := K11.wr W17 (Or.inl (List.mem_of_getElem? (i := 0) rfl))
  have N17 := Fr.snoc X17 N14 (by omega : n0 ≤ a_1)
  have Fw17 : Fld Z h17 a_1 "java/util/ArrayDeque" "head" "I" (.int (2 : Int32)) := Fld.same W17 f16
  refine own_go (fun _ k => st17 _ k) ?_
  show own_Go _ _ _ _ T17 (mkF m 34 #[.val (.ref a_1), .val (.ref ar), .val (.int (1 : Int32)), .val (.ref x)] [])
  refine own_go (fun _ k => XS.aloadN X17.here hx rfl (hb hby own_d19_34) rfl rfl k) ?_
  show own_Go _ _ _ _ T17 (mkF m 35 #[.val (.ref a_1), .val (.ref ar), .val (.int (1 : Int32)), .val (.ref x)] [(.ref x)])
  obtain ⟨fs, hr, hrun, hended, hW, hsame⟩ := X17.leave (v := some (.ref x)) (fun h => by rw [Bd.returns] at h; cases h)
  refine ⟨_, _, retOut X17 hx Bd.returns rfl (Or.inr (Or.inr (Or.inr (Or.inr ⟨rfl, rfl, rfl⟩)))) (hb hby own_d19_35) hr, hrun, hended, _, _, rfl, ?_, ⟨_, rfl⟩, hW, hsame.mono (by rw [y14]; decide) (by rw [z14]; decide)⟩
  show own_Q19_1 Z a_1 ar g x h0 n0 _ T17.heap _
  rw [e17]
  have f20 : Exa Z h17 a_1 "java/util/ArrayDeque" := (f15.wr W17)
  have f21 : Fld Z h17 a_1 "java/util/ArrayDeque" "elements" "[Ljava/lang/Object;" (.ref ar) := ((pr_F_a_1_elements.other W11 (Or.inl (own_ne (by omega)))).other W17 (Or.inr (slot_ne (Or.inl (hw _ (List.mem_of_getElem? (i := 25) rfl))) (Or.inl (hw _ (List.mem_of_getElem? (i := 72) rfl))) (by decide) (t := (.array (.object "java/lang/Object"))) (t' := .int) (by decide) (by decide))))
  have f22 : Fld Z h17 a_1 "java/util/ArrayDeque" "tail" "I" (.int (2 : Int32)) := ((pr_F_a_1_tail.other W11 (Or.inl (own_ne (by omega)))).other W17 (Or.inr (slot_ne (Or.inl (hw _ (List.mem_of_getElem? (i := 39) rfl))) (Or.inl (hw _ (List.mem_of_getElem? (i := 72) rfl))) (by decide) (t := .int) (t' := .int) (by decide) (by decide))))
  have f23 : own_AV Z h17 ar (.object "java/lang/Object") (17 : Int32) (own_upd g 1 .null) := (V11.other W17 (own_ne (by omega)))
  exact ⟨rfl, N17, K17, f20, f21, Fw17, f22, f23⟩
theorem own_d18_0 : decode jdk_21_method_18_code 0 = .ok (.aload_n 0, 1) := by decide +kernel
theorem own_d18_1 : decode jdk_21_method_18_code 1 = .ok (.invokevirtual 93, 3) := by decide +kernel
theorem own_d18_4 : decode jdk_21_method_18_code 4 = .ok (.astore_n 1, 1) := by decide +kernel
theorem own_d18_5 : decode jdk_21_method_18_code 5 = .ok (.aload_n 1, 1) := by decide +kernel
theorem own_d18_6 : decode jdk_21_method_18_code 6 = .ok (.ifnonnull 11, 3) := by decide +kernel
theorem own_d18_17 : decode jdk_21_method_18_code 17 = .ok (.aload_n 1, 1) := by decide +kernel
theorem own_d18_18 : decode jdk_21_method_18_code 18 = .ok (.areturn, 1) := by decide +kernel
theorem own_ef_own_rm18_0 (m : MethodId) (x0 : Addr) : entryFrame m #[(.ref x0)] 2 = mkF m 0 #[.val (.ref x0), .unset] [] := by first | (simp [entryFrame, mkF, argsToLocals, Value.category]; done) | rfl
def own_Q18_0 (Z : State) (a_1 : Addr) (ar : Addr) (g : Nat → Value) (x : Addr) (h0 : Heap) (n0 : Nat) (v : Option Value) (h : Heap) (L : List Loc) : Prop := v = some (.ref x) ∧ Fr n0 L ∧ Keep h0 h [a_1, ar] ∧ Exa Z h a_1 "java/util/ArrayDeque" ∧ Fld Z h a_1 "java/util/ArrayDeque" "elements" "[Ljava/lang/Object;" (.ref ar) ∧ Fld Z h a_1 "java/util/ArrayDeque" "head" "I" (.int (1 : Int32)) ∧ Fld Z h a_1 "java/util/ArrayDeque" "tail" "I" (.int (1 : Int32)) ∧ own_AV Z h ar (.object "java/lang/Object") (17 : Int32) (own_upd g 0 .null)
set_option maxRecDepth 65536 in
set_option maxHeartbeats 40000000 in
theorem own_rm18_0 (l : Launch) (Z : State) (a0 : Array Value) (hw : ∀ d ∈ tables_1, d.before a0 Z = true) (ws : List Jvm.Cond) (a_1 : Addr) (ar : Addr) (g : Nat → Value) (x : Addr) (h0 : Heap) (n0 : Nat) (Z0 : n0 ≤ h0.size) (pr_E_a_1 : Exa Z h0 a_1 "java/util/ArrayDeque") (pr_F_a_1_elements : Fld Z h0 a_1 "java/util/ArrayDeque" "elements" "[Ljava/lang/Object;" (.ref ar)) (pr_F_a_1_head : Fld Z h0 a_1 "java/util/ArrayDeque" "head" "I" (.int (0 : Int32))) (pr_F_a_1_tail : Fld Z h0 a_1 "java/util/ArrayDeque" "tail" "I" (.int (1 : Int32))) (pr_A_ar : own_AV Z h0 ar (.object "java/lang/Object") (17 : Int32) g) (hg0 : g 0 = .ref x) (ho_ : own_lts [a_1, ar]) (gw_a_1 : n0 ≤ a_1) (gw_ar : n0 ≤ ar) :
    MetFree l (⟨"java/util/ArrayDeque", "removeFirst", "()Ljava/lang/Object;"⟩ : MethodName) (head1 (Jvm.Cond.code (⟨"java/util/ArrayDeque", "removeFirst", "()Ljava/lang/Object;"⟩ : MethodName) jdk_21_method_18_code 2 (some (.object "java/lang/Object")) :: ws) ({ frames := 2, cells := 0, slots := 0, locals := 29 } : Room)) (fun a U => a = #[(.ref a_1)] ∧ Z.Warmed39 U.vm ∧ U.heap = h0) (fun _ _ _ _ _ => True) (fun _ U o U' => ∃ v L, o = .returned v ∧ own_Q18_0 Z a_1 ar g x h0 n0 v U'.heap L ∧ FrameEnd U o U' L ({ frames := 2, cells := 0, slots := 0, locals := 29 } : Room).cells ({ frames := 2, cells := 0, slots := 0, locals := 29 } : Room).slots) := by
  refine MetFree.of_bodySF (plainFor_of_name own_pn0) hisR ?_
  intro p e s m args below meth c s₁ Bd hml0 hP hK
  obtain ⟨rfl, hZ, hh⟩ := hP
  have hx := Bd.exec
  have hby := Bd.bytes
  have hml : c.maxLocals = 2 := hml0
  have hown : s.vm.findClass "java/util/ArrayDeque" = some m.cls := findClass_of_methodNamed Bd.named
  have hnm := (name_of_methodNamed Bd.named Bd.method).1
  have X0 : Stand p l e ({ frames := 2, cells := 0, slots := 0, locals := 29 } : Room) s m #[(.ref a_1)] below meth c s₁ [] 0 0 := Stand.of_body Bd
  have e0 : s₁.heap = h0 := by rw [← hh, Bd.state]; rfl
  have N0 := Fr.nil n0
  have z0 : n0 ≤ h0.size := Z0
  have z1 := own_lt pr_E_a_1.lt
  have z2 := own_lt pr_F_a_1_elements.lt
  have z3 := own_lt pr_F_a_1_head.lt
  have z4 := own_lt pr_F_a_1_tail.lt
  have z5 := own_lt pr_A_ar.lt
  have ho6 := ho_
  simp only [own_lts, and_true] at ho6
  have K0 : Keep h0 h0 [a_1, ar] := Keep.refl h0 _
  show own_Go p.tables e below (fun t o => t.status = .running ∧ Ended t below o ∧ ∃ v L, o = .returned v ∧ own_Q18_0 Z a_1 ar g x h0 n0 v t.heap L ∧ FrameEnd s o t L ({ frames := 2, cells := 0, slots := 0, locals := 29 } : Room).cells ({ frames := 2, cells := 0, slots := 0, locals := 29 } : Room).slots) s₁ (entryFrame m #[(.ref a_1)] 2)
  rw [own_ef_own_rm18_0 m a_1]
  show own_Go _ _ _ _ s₁ (mkF m 0 #[.val (.ref a_1), .unset] [])
  refine own_go (fun _ k => XS.aloadN X0.here hx rfl (hb hby own_d18_0) rfl rfl k) ?_
  show own_Go _ _ _ _ s₁ (mkF m 1 #[.val (.ref a_1), .unset] [(.ref a_1)])
  obtain ⟨cq7, kq7, q7a, q7b, q7c⟩ := isOf hZ e0 pr_E_a_1
  obtain ⟨_, _, ⟨T7, L7, k7, n7⟩, -, X7, ⟨Lc7, hQ7, l7, y7, z7⟩, st7⟩ := X0.virtualBack hx (y := (⟨"java/util/ArrayDeque", "pollFirst", "()Ljava/lang/Object;"⟩ : MethodName)) (z := (⟨"java/util/ArrayDeque", "pollFirst", "()Ljava/lang/Object;"⟩ : MethodName)) hown (mvT hZ (hw _ (List.mem_of_getElem? (i := 110) rfl))) (mvT hZ (hw _ (List.mem_of_getElem? (i := 111) rfl))) (notFace_of_selects (args := #[]) (mvT hZ (hw _ (List.mem_of_getElem? (i := 113) rfl)))) (mvT hZ (hw _ (List.mem_of_getElem? (i := 113) rfl))) (mvT hZ (hw _ (List.mem_of_getElem? (i := 112) rfl))) (by decide) (backOf (W := 0) (own_rm19_0 l Z a0 hw [] a_1 ar g x h0 n0 (by omega) pr_E_a_1 pr_F_a_1_elements pr_F_a_1_head pr_F_a_1_tail pr_A_ar hg0 (by simp only [own_lts, and_true]; omega) (by omega) (by omega)) hZ (hw _ (List.mem_of_getElem? (i := 114) rfl)) (hw _ (List.mem_of_getElem? (i := 11) rfl)) (by decide) (by decide)) q7a q7c (g := (mkF m 1 #[.val (.ref a_1), .unset] [(.ref a_1)])) rfl (by rw [hml]; rfl) (Steps.refl _) (argsL := []) (rest := []) (lenOf own_pd3 rfl) rfl (by show 2 * 0 + _ ≤ _; exact Nat.le_of_eq rfl) (hb hby own_d18_1) (fun _ _ => ⟨rfl, e0, (by decide : 0 + 0 ≤ _), (by decide : 0 + 0 ≤ _)⟩)
  dsimp only [Pt.U, Pt.locs, Pt.cells, Pt.slots] at X7 l7 y7 z7 st7 hQ7
  have y7 : k7 = 0 := y7
  have z7 : n7 = 0 := z7
  obtain ⟨rfl, N7q, K7q, f8, f9, f10, f11, f12⟩ := hQ7
  have N7 : Fr n0 L7 := by rw [l7]; exact Fr.app N0 N7q
  have z13 := K7q.1
  have K7 : Keep h0 T7.heap [a_1, ar] := K0.trans K7q (allS (Or.inl (List.mem_of_getElem? (i := 0) rfl)) (allS (Or.inl (List.mem_of_getElem? (i := 1) rfl)) all0))
  have z14 := own_lt f8.lt
  have z15 := own_lt f9.lt
  have z16 := own_lt f10.lt
  have z17 := own_lt f11.lt
  have z18 := own_lt f12.lt
  refine own_go (fun _ k => st7.trans k) ?_
  show own_Go _ _ _ _ T7 (mkF m 4 #[.val (.ref a_1), .unset] [(.ref x)])
  refine own_go (fun _ k => XS.astoreN X7.here hx rfl (hb hby own_d18_4) rfl rfl (l' := #[.val (.ref a_1), .val (.ref x)]) rfl k) ?_
  show own_Go _ _ _ _ T7 (mkF m 5 #[.val (.ref a_1), .val (.ref x)] [])
  refine own_go (fun _ k => XS.aloadN X7.here hx rfl (hb hby own_d18_5) rfl rfl k) ?_
  show own_Go _ _ _ _ T7 (mkF m 6 #[.val (.ref a_1), .val (.ref x)] [(.ref x)])
  refine own_go (fun _ k => XS.ifnonnullYes X7.here hx rfl (pc0 := 6) (pc' := 17) rfl (hb hby own_d18_6) rfl (by decide) (by decide) k) ?_
  show own_Go _ _ _ _ T7 (mkF m 17 #[.val (.ref a_1), .val (.ref x)] [])
  refine own_go (fun _ k => XS.aloadN X7.here hx rfl (hb hby own_d18_17) rfl rfl k) ?_
  show own_Go _ _ _ _ T7 (mkF m 18 #[.val (.ref a_1), .val (.ref x)] [(.ref x)])
  obtain ⟨fs, hr, hrun, hended, hW, hsame⟩ := X7.leave (v := some (.ref x)) (fun h => by rw [Bd.returns] at h; cases h)
  refine ⟨_, _, retOut X7 hx Bd.returns rfl (Or.inr (Or.inr (Or.inr (Or.inr ⟨rfl, rfl, rfl⟩)))) (hb hby own_d18_18) hr, hrun, hended, _, _, rfl, ?_, ⟨_, rfl⟩, hW, hsame.mono (by rw [y7]; decide) (by rw [z7]; decide)⟩
  exact ⟨rfl, N7, K7, f8, f9, f10, f11, f12⟩
theorem own_ef_own_rm18_1 (m : MethodId) (x0 : Addr) : entryFrame m #[(.ref x0)] 2 = mkF m 0 #[.val (.ref x0), .unset] [] := by first | (simp [entryFrame, mkF, argsToLocals, Value.category]; done) | rfl
def own_Q18_1 (Z : State) (a_1 : Addr) (ar : Addr) (g : Nat → Value) (x : Addr) (h0 : Heap) (n0 : Nat) (v : Option Value) (h : Heap) (L : List Loc) : Prop := v = some (.ref x) ∧ Fr n0 L ∧ Keep h0 h [a_1, ar] ∧ Exa Z h a_1 "java/util/ArrayDeque" ∧ Fld Z h a_1 "java/util/ArrayDeque" "elements" "[Ljava/lang/Object;" (.ref ar) ∧ Fld Z h a_1 "java/util/ArrayDeque" "head" "I" (.int (2 : Int32)) ∧ Fld Z h a_1 "java/util/ArrayDeque" "tail" "I" (.int (2 : Int32)) ∧ own_AV Z h ar (.object "java/lang/Object") (17 : Int32) (own_upd g 1 .null)
set_option maxRecDepth 65536 in
set_option maxHeartbeats 40000000 in
theorem own_rm18_1 (l : Launch) (Z : State) (a0 : Array Value) (hw : ∀ d ∈ tables_1, d.before a0 Z = true) (ws : List Jvm.Cond) (a_1 : Addr) (ar : Addr) (g : Nat → Value) (x : Addr) (h0 : Heap) (n0 : Nat) (Z0 : n0 ≤ h0.size) (pr_E_a_1 : Exa Z h0 a_1 "java/util/ArrayDeque") (pr_F_a_1_elements : Fld Z h0 a_1 "java/util/ArrayDeque" "elements" "[Ljava/lang/Object;" (.ref ar)) (pr_F_a_1_head : Fld Z h0 a_1 "java/util/ArrayDeque" "head" "I" (.int (1 : Int32))) (pr_F_a_1_tail : Fld Z h0 a_1 "java/util/ArrayDeque" "tail" "I" (.int (2 : Int32))) (pr_A_ar : own_AV Z h0 ar (.object "java/lang/Object") (17 : Int32) g) (hg1 : g 1 = .ref x) (ho_ : own_lts [a_1, ar]) (gw_a_1 : n0 ≤ a_1) (gw_ar : n0 ≤ ar) :
    MetFree l (⟨"java/util/ArrayDeque", "removeFirst", "()Ljava/lang/Object;"⟩ : MethodName) (head1 (Jvm.Cond.code (⟨"java/util/ArrayDeque", "removeFirst", "()Ljava/lang/Object;"⟩ : MethodName) jdk_21_method_18_code 2 (some (.object "java/lang/Object")) :: ws) ({ frames := 2, cells := 0, slots := 0, locals := 29 } : Room)) (fun a U => a = #[(.ref a_1)] ∧ Z.Warmed39 U.vm ∧ U.heap = h0) (fun _ _ _ _ _ => True) (fun _ U o U' => ∃ v L, o = .returned v ∧ own_Q18_1 Z a_1 ar g x h0 n0 v U'.heap L ∧ FrameEnd U o U' L ({ frames := 2, cells := 0, slots := 0, locals := 29 } : Room).cells ({ frames := 2, cells := 0, slots := 0, locals := 29 } : Room).slots) := by
  refine MetFree.of_bodySF (plainFor_of_name own_pn0) hisR ?_
  intro p e s m args below meth c s₁ Bd hml0 hP hK
  obtain ⟨rfl, hZ, hh⟩ := hP
  have hx := Bd.exec
  have hby := Bd.bytes
  have hml : c.maxLocals = 2 := hml0
  have hown : s.vm.findClass "java/util/ArrayDeque" = some m.cls := findClass_of_methodNamed Bd.named
  have hnm := (name_of_methodNamed Bd.named Bd.method).1
  have X0 : Stand p l e ({ frames := 2, cells := 0, slots := 0, locals := 29 } : Room) s m #[(.ref a_1)] below meth c s₁ [] 0 0 := Stand.of_body Bd
  have e0 : s₁.heap = h0 := by rw [← hh, Bd.state]; rfl
  have N0 := Fr.nil n0
  have z0 : n0 ≤ h0.size := Z0
  have z1 := own_lt pr_E_a_1.lt
  have z2 := own_lt pr_F_a_1_elements.lt
  have z3 := own_lt pr_F_a_1_head.lt
  have z4 := own_lt pr_F_a_1_tail.lt
  have z5 := own_lt pr_A_ar.lt
  have ho6 := ho_
  simp only [own_lts, and_true] at ho6
  have K0 : Keep h0 h0 [a_1, ar] := Keep.refl h0 _
  show own_Go p.tables e below (fun t o => t.status = .running ∧ Ended t below o ∧ ∃ v L, o = .returned v ∧ own_Q18_1 Z a_1 ar g x h0 n0 v t.heap L ∧ FrameEnd s o t L ({ frames := 2, cells := 0, slots := 0, locals := 29 } : Room).cells ({ frames := 2, cells := 0, slots := 0, locals := 29 } : Room).slots) s₁ (entryFrame m #[(.ref a_1)] 2)
  rw [own_ef_own_rm18_1 m a_1]
  show own_Go _ _ _ _ s₁ (mkF m 0 #[.val (.ref a_1), .unset] [])
  refine own_go (fun _ k => XS.aloadN X0.here hx rfl (hb hby own_d18_0) rfl rfl k) ?_
  show own_Go _ _ _ _ s₁ (mkF m 1 #[.val (.ref a_1), .unset] [(.ref a_1)])
  obtain ⟨cq7, kq7, q7a, q7b, q7c⟩ := isOf hZ e0 pr_E_a_1
  obtain ⟨_, _, ⟨T7, L7, k7, n7⟩, -, X7, ⟨Lc7, hQ7, l7, y7, z7⟩, st7⟩ := X0.virtualBack hx (y := (⟨"java/util/ArrayDeque", "pollFirst", "()Ljava/lang/Object;"⟩ : MethodName)) (z := (⟨"java/util/ArrayDeque", "pollFirst", "()Ljava/lang/Object;"⟩ : MethodName)) hown (mvT hZ (hw _ (List.mem_of_getElem? (i := 110) rfl))) (mvT hZ (hw _ (List.mem_of_getElem? (i := 111) rfl))) (notFace_of_selects (args := #[]) (mvT hZ (hw _ (List.mem_of_getElem? (i := 113) rfl)))) (mvT hZ (hw _ (List.mem_of_getElem? (i := 113) rfl))) (mvT hZ (hw _ (List.mem_of_getElem? (i := 112) rfl))) (by decide) (backOf (W := 0) (own_rm19_1 l Z a0 hw [] a_1 ar g x h0 n0 (by omega) pr_E_a_1 pr_F_a_1_elements pr_F_a_1_head pr_F_a_1_tail pr_A_ar hg1 (by simp only [own_lts, and_true]; omega) (by omega) (by omega)) hZ (hw _ (List.mem_of_getElem? (i := 114) rfl)) (hw _ (List.mem_of_getElem? (i := 11) rfl)) (by decide) (by decide)) q7a q7c (g := (mkF m 1 #[.val (.ref a_1), .unset] [(.ref a_1)])) rfl (by rw [hml]; rfl) (Steps.refl _) (argsL := []) (rest := []) (lenOf own_pd3 rfl) rfl (by show 2 * 0 + _ ≤ _; exact Nat.le_of_eq rfl) (hb hby own_d18_1) (fun _ _ => ⟨rfl, e0, (by decide : 0 + 0 ≤ _), (by decide : 0 + 0 ≤ _)⟩)
  dsimp only [Pt.U, Pt.locs, Pt.cells, Pt.slots] at X7 l7 y7 z7 st7 hQ7
  have y7 : k7 = 0 := y7
  have z7 : n7 = 0 := z7
  obtain ⟨rfl, N7q, K7q, f8, f9, f10, f11, f12⟩ := hQ7
  have N7 : Fr n0 L7 := by rw [l7]; exact Fr.app N0 N7q
  have z13 := K7q.1
  have K7 : Keep h0 T7.heap [a_1, ar] := K0.trans K7q (allS (Or.inl (List.mem_of_getElem? (i := 0) rfl)) (allS (Or.inl (List.mem_of_getElem? (i := 1) rfl)) all0))
  have z14 := own_lt f8.lt
  have z15 := own_lt f9.lt
  have z16 := own_lt f10.lt
  have z17 := own_lt f11.lt
  have z18 := own_lt f12.lt
  refine own_go (fun _ k => st7.trans k) ?_
  show own_Go _ _ _ _ T7 (mkF m 4 #[.val (.ref a_1), .unset] [(.ref x)])
  refine own_go (fun _ k => XS.astoreN X7.here hx rfl (hb hby own_d18_4) rfl rfl (l' := #[.val (.ref a_1), .val (.ref x)]) rfl k) ?_
  show own_Go _ _ _ _ T7 (mkF m 5 #[.val (.ref a_1), .val (.ref x)] [])
  refine own_go (fun _ k => XS.aloadN X7.here hx rfl (hb hby own_d18_5) rfl rfl k) ?_
  show own_Go _ _ _ _ T7 (mkF m 6 #[.val (.ref a_1), .val (.ref x)] [(.ref x)])
  refine own_go (fun _ k => XS.ifnonnullYes X7.here hx rfl (pc0 := 6) (pc' := 17) rfl (hb hby own_d18_6) rfl (by decide) (by decide) k) ?_
  show own_Go _ _ _ _ T7 (mkF m 17 #[.val (.ref a_1), .val (.ref x)] [])
  refine own_go (fun _ k => XS.aloadN X7.here hx rfl (hb hby own_d18_17) rfl rfl k) ?_
  show own_Go _ _ _ _ T7 (mkF m 18 #[.val (.ref a_1), .val (.ref x)] [(.ref x)])
  obtain ⟨fs, hr, hrun, hended, hW, hsame⟩ := X7.leave (v := some (.ref x)) (fun h => by rw [Bd.returns] at h; cases h)
  refine ⟨_, _, retOut X7 hx Bd.returns rfl (Or.inr (Or.inr (Or.inr (Or.inr ⟨rfl, rfl, rfl⟩)))) (hb hby own_d18_18) hr, hrun, hended, _, _, rfl, ?_, ⟨_, rfl⟩, hW, hsame.mono (by rw [y7]; decide) (by rw [z7]; decide)⟩
  exact ⟨rfl, N7, K7, f8, f9, f10, f11, f12⟩
theorem own_d4_0 : decode jdk_22_method_1_code 0 = .ok (.aload_n 0, 1) := by decide +kernel
theorem own_d4_1 : decode jdk_22_method_1_code 1 = .ok (.invokespecial 1, 3) := by decide +kernel
theorem own_d4_4 : decode jdk_22_method_1_code 4 = .ok (.return_, 1) := by decide +kernel
theorem own_ef_own_rm4 (m : MethodId) (x0 : Addr) : entryFrame m #[(.ref x0)] 1 = mkF m 0 #[.val (.ref x0)] [] := by first | (simp [entryFrame, mkF, argsToLocals, Value.category]; done) | rfl
def own_Q4 (Z : State) (a_1 : Addr) (h0 : Heap) (n0 : Nat) (v : Option Value) (h : Heap) (L : List Loc) : Prop := v = none ∧ Fr n0 L ∧ h = h0
set_option maxRecDepth 65536 in
set_option maxHeartbeats 40000000 in
theorem own_rm4 (l : Launch) (Z : State) (a0 : Array Value) (hw : ∀ d ∈ tables_1, d.before a0 Z = true) (ws : List Jvm.Cond) (a_1 : Addr) (h0 : Heap) (n0 : Nat) (Z0 : n0 ≤ h0.size) :
    MetFree l (⟨"java/util/AbstractCollection", "<init>", "()V"⟩ : MethodName) (head1 (Jvm.Cond.code (⟨"java/util/AbstractCollection", "<init>", "()V"⟩ : MethodName) jdk_22_method_1_code 1 none :: ws) ({ frames := 1, cells := 0, slots := 0, locals := 12 } : Room)) (fun a U => a = #[(.ref a_1)] ∧ Z.Warmed39 U.vm ∧ U.heap = h0) (fun _ _ _ _ _ => True) (fun _ U o U' => ∃ v L, o = .returned v ∧ own_Q4 Z a_1 h0 n0 v U'.heap L ∧ FrameEnd U o U' L ({ frames := 1, cells := 0, slots := 0, locals := 12 } : Room).cells ({ frames := 1, cells := 0, slots := 0, locals := 12 } : Room).slots) := by
  refine MetFree.of_bodySF (plainFor_of_name own_pn1) hisR ?_
  intro p e s m args below meth c s₁ Bd hml0 hP hK
  obtain ⟨rfl, hZ, hh⟩ := hP
  have hx := Bd.exec
  have hby := Bd.bytes
  have hml : c.maxLocals = 1 := hml0
  have hown : s.vm.findClass "java/util/AbstractCollection" = some m.cls := findClass_of_methodNamed Bd.named
  have hnm := (name_of_methodNamed Bd.named Bd.method).1
  have X0 : Stand p l e ({ frames := 1, cells := 0, slots := 0, locals := 12 } : Room) s m #[(.ref a_1)] below meth c s₁ [] 0 0 := Stand.of_body Bd
  have e0 : s₁.heap = h0 := by rw [← hh, Bd.state]; rfl
  have N0 := Fr.nil n0
  have z0 : n0 ≤ h0.size := Z0
  show own_Go p.tables e below (fun t o => t.status = .running ∧ Ended t below o ∧ ∃ v L, o = .returned v ∧ own_Q4 Z a_1 h0 n0 v t.heap L ∧ FrameEnd s o t L ({ frames := 1, cells := 0, slots := 0, locals := 12 } : Room).cells ({ frames := 1, cells := 0, slots := 0, locals := 12 } : Room).slots) s₁ (entryFrame m #[(.ref a_1)] 1)
  rw [own_ef_own_rm4 m a_1]
  show own_Go _ _ _ _ s₁ (mkF m 0 #[.val (.ref a_1)] [])
  refine own_go (fun _ k => XS.aloadN X0.here hx rfl (hb hby own_d4_0) rfl rfl k) ?_
  show own_Go _ _ _ _ s₁ (mkF m 1 #[.val (.ref a_1)] [(.ref a_1)])
  obtain ⟨T1, X1, e1, st1⟩ := initO X0 hx hZ hown (hw _ (List.mem_of_getElem? (i := 21) rfl)) (hw _ (List.mem_of_getElem? (i := 7) rfl)) (hw _ (List.mem_of_getElem? (i := 8) rfl)) e0 (g := (mkF m 1 #[.val (.ref a_1)] [(.ref a_1)])) rfl (by rw [hml]; rfl) rfl (hb hby own_d4_1) (by decide) (W := 0) (by show 2 * 0 + _ ≤ _; exact Nat.le_of_eq rfl) (by decide)
  refine own_go (fun _ k => st1 _ k) ?_
  show own_Go _ _ _ _ T1 (mkF m 4 #[.val (.ref a_1)] [])
  obtain ⟨fs, hr, hrun, hended, hW, hsame⟩ := X1.leave (v := none) (fun _ => rfl)
  refine ⟨_, _, X1.returnOut hx Bd.returns (hb hby own_d4_4) hr, hrun, hended, _, _, rfl, ?_, ⟨_, rfl⟩, hW, hsame.mono (by decide) (by decide)⟩
  show own_Q4 Z a_1 h0 n0 _ T1.heap _
  rw [e1]
  exact ⟨rfl, N0, rfl⟩
theorem own_d3_0 : decode jdk_21_method_3_code 0 = .ok (.aload_n 0, 1) := by decide +kernel
theorem own_d3_1 : decode jdk_21_method_3_code 1 = .ok (.invokespecial 42, 3) := by decide +kernel
theorem own_d3_4 : decode jdk_21_method_3_code 4 = .ok (.aload_n 0, 1) := by decide +kernel
theorem own_d3_5 : decode jdk_21_method_3_code 5 = .ok (.bipush 17, 2) := by decide +kernel
theorem own_d3_7 : decode jdk_21_method_3_code 7 = .ok (.anewarray 47, 3) := by decide +kernel
theorem own_d3_10 : decode jdk_21_method_3_code 10 = .ok (.putfield 3, 3) := by decide +kernel
theorem own_d3_13 : decode jdk_21_method_3_code 13 = .ok (.return_, 1) := by decide +kernel
theorem own_ef_own_rm3 (m : MethodId) (x0 : Addr) : entryFrame m #[(.ref x0)] 1 = mkF m 0 #[.val (.ref x0)] [] := by first | (simp [entryFrame, mkF, argsToLocals, Value.category]; done) | rfl
def own_Q3 (Z : State) (a_1 : Addr) (w_elements_a_1 : Value) (w_tail_a_1 : Int32) (w_head_a_1 : Int32) (h0 : Heap) (n0 : Nat) (v : Option Value) (h : Heap) (L : List Loc) : Prop := ∃ (x_0 : Addr), v = none ∧ Fr n0 L ∧ Keep h0 h [a_1] ∧ Exa Z h a_1 "java/util/ArrayDeque" ∧ Fld Z h a_1 "java/util/ArrayDeque" "elements" "[Ljava/lang/Object;" (.ref x_0) ∧ Fld Z h a_1 "java/util/ArrayDeque" "tail" "I" (.int w_tail_a_1) ∧ Fld Z h a_1 "java/util/ArrayDeque" "head" "I" (.int w_head_a_1) ∧ own_AV Z h x_0 (.object "java/lang/Object") (17 : Int32) (fun _ => .null) ∧ own_OA Z h x_0 "java/lang/Object" ∧ (h0.size ≤ x_0)
set_option maxRecDepth 65536 in
set_option maxHeartbeats 40000000 in
theorem own_rm3 (l : Launch) (Z : State) (a0 : Array Value) (hw : ∀ d ∈ tables_1, d.before a0 Z = true) (ws : List Jvm.Cond) (a_1 : Addr) (w_elements_a_1 : Value) (w_tail_a_1 : Int32) (w_head_a_1 : Int32) (h0 : Heap) (n0 : Nat) (Z0 : n0 ≤ h0.size) (pr_E_a_1 : Exa Z h0 a_1 "java/util/ArrayDeque") (pr_F_a_1_elements : Fld Z h0 a_1 "java/util/ArrayDeque" "elements" "[Ljava/lang/Object;" w_elements_a_1) (pr_F_a_1_tail : Fld Z h0 a_1 "java/util/ArrayDeque" "tail" "I" (.int w_tail_a_1)) (pr_F_a_1_head : Fld Z h0 a_1 "java/util/ArrayDeque" "head" "I" (.int w_head_a_1)) (gw_a_1 : n0 ≤ a_1) :
    MetFree l (⟨"java/util/ArrayDeque", "<init>", "()V"⟩ : MethodName) (head1 (Jvm.Cond.code (⟨"java/util/ArrayDeque", "<init>", "()V"⟩ : MethodName) jdk_21_method_3_code 1 none :: ws) ({ frames := 2, cells := 1, slots := 17, locals := 24 } : Room)) (fun a U => a = #[(.ref a_1)] ∧ Z.Warmed39 U.vm ∧ U.heap = h0) (fun _ _ _ _ _ => True) (fun _ U o U' => ∃ v L, o = .returned v ∧ own_Q3 Z a_1 w_elements_a_1 w_tail_a_1 w_head_a_1 h0 n0 v U'.heap L ∧ FrameEnd U o U' L ({ frames := 2, cells := 1, slots := 17, locals := 24 } : Room).cells ({ frames := 2, cells := 1, slots := 17, locals := 24 } : Room).slots) := by
  refine MetFree.of_bodySF (plainFor_of_name own_pn0) hisR ?_
  intro p e s m args below meth c s₁ Bd hml0 hP hK
  obtain ⟨rfl, hZ, hh⟩ := hP
  have hx := Bd.exec
  have hby := Bd.bytes
  have hml : c.maxLocals = 1 := hml0
  have hown : s.vm.findClass "java/util/ArrayDeque" = some m.cls := findClass_of_methodNamed Bd.named
  have hnm := (name_of_methodNamed Bd.named Bd.method).1
  have X0 : Stand p l e ({ frames := 2, cells := 1, slots := 17, locals := 24 } : Room) s m #[(.ref a_1)] below meth c s₁ [] 0 0 := Stand.of_body Bd
  have e0 : s₁.heap = h0 := by rw [← hh, Bd.state]; rfl
  have N0 := Fr.nil n0
  have z0 : n0 ≤ h0.size := Z0
  have z1 := own_lt pr_E_a_1.lt
  have z2 := own_lt pr_F_a_1_elements.lt
  have z3 := own_lt pr_F_a_1_tail.lt
  have z4 := own_lt pr_F_a_1_head.lt
  have K0 : Keep h0 h0 [a_1] := Keep.refl h0 _
  show own_Go p.tables e below (fun t o => t.status = .running ∧ Ended t below o ∧ ∃ v L, o = .returned v ∧ own_Q3 Z a_1 w_elements_a_1 w_tail_a_1 w_head_a_1 h0 n0 v t.heap L ∧ FrameEnd s o t L ({ frames := 2, cells := 1, slots := 17, locals := 24 } : Room).cells ({ frames := 2, cells := 1, slots := 17, locals := 24 } : Room).slots) s₁ (entryFrame m #[(.ref a_1)] 1)
  rw [own_ef_own_rm3 m a_1]
  show own_Go _ _ _ _ s₁ (mkF m 0 #[.val (.ref a_1)] [])
  refine own_go (fun _ k => XS.aloadN X0.here hx rfl (hb hby own_d3_0) rfl rfl k) ?_
  show own_Go _ _ _ _ s₁ (mkF m 1 #[.val (.ref a_1)] [(.ref a_1)])
  obtain ⟨_, _, ⟨T5, L5, k5, n5⟩, -, X5, ⟨Lc5, hQ5, l5, y5, z5⟩, st5⟩ := X0.specialBack hx (y := (⟨"java/util/AbstractCollection", "<init>", "()V"⟩ : MethodName)) rfl hown (mvT hZ (hw _ (List.mem_of_getElem? (i := 15) rfl))) (mvT hZ (hw _ (List.mem_of_getElem? (i := 16) rfl))) (mvT hZ (hw _ (List.mem_of_getElem? (i := 20) rfl))) (by decide) (backOf (W := 0) (own_rm4 l Z a0 hw [] a_1  h0 n0 (by omega) ) hZ (hw _ (List.mem_of_getElem? (i := 20) rfl)) (hw _ (List.mem_of_getElem? (i := 19) rfl)) (by decide) (by decide)) (g := (mkF m 1 #[.val (.ref a_1)] [(.ref a_1)])) rfl (by rw [hml]; rfl) (Steps.refl _) (a := a_1) (argsL := []) (rest := []) (lenOf own_pd4 rfl) rfl (by show 2 * 0 + _ ≤ _; exact Nat.le_of_eq rfl) (hb hby own_d3_1) (fun _ _ => ⟨rfl, e0, (by decide : 0 + 0 ≤ _), (by decide : 0 + 0 ≤ _)⟩)
  dsimp only [Pt.U, Pt.locs, Pt.cells, Pt.slots] at X5 l5 y5 z5 st5 hQ5
  have y5 : k5 = 0 := y5
  have z5 : n5 = 0 := z5
  obtain ⟨rfl, N5q, e5⟩ := hQ5
  have N5 : Fr n0 L5 := by rw [l5]; exact Fr.app N0 N5q
  refine own_go (fun _ k => st5.trans k) ?_
  show own_Go _ _ _ _ T5 (mkF m 4 #[.val (.ref a_1)] [])
  refine own_go (fun _ k => XS.aloadN X5.here hx rfl (hb hby own_d3_4) rfl rfl k) ?_
  show own_Go _ _ _ _ T5 (mkF m 5 #[.val (.ref a_1)] [(.ref a_1)])
  refine own_go (fun _ k => XS.bipush X5.here hx rfl (hb hby own_d3_5) k) ?_
  show own_Go _ _ _ _ T5 (mkF m 7 #[.val (.ref a_1)] [(.int (17 : Int32)), (.ref a_1)])
  obtain ⟨T6, h6, k6, X6, e6, E6, A6, O6, st6⟩ := newR X5 hx hZ hown (hw _ (List.mem_of_getElem? (i := 22) rfl)) (hw _ (List.mem_of_getElem? (i := 23) rfl)) e5 (g := (mkF m 7 #[.val (.ref a_1)] [(.int (17 : Int32)), (.ref a_1)])) rfl (hb hby own_d3_7) rfl (by decide) (cap := 17) (by decide) (by decide) (by rw [y5]; decide) (by rw [z5]; decide)
  obtain ⟨b6, g6⟩ : ∃ z, z = h0.size := ⟨_, rfl⟩
  rw [← g6] at A6 st6
  have z7 := E6.1
  have lt_b6 := own_lt A6.lt
  have K6 : Keep h0 h6 [a_1] := K0.ext E6
  have V_b6 : own_AV Z h6 b6 (.object "java/lang/Object") (17 : Int32) (fun _ => .null) := own_AV.new A6 (by decide)
  have O_b6 : own_OA Z h6 b6 "java/lang/Object" := ⟨_, A6.1, O6⟩
  refine own_go (fun _ k => st6 _ k) ?_
  show own_Go _ _ _ _ T6 (mkF m 10 #[.val (.ref a_1)] [(.ref b6), (.ref a_1)])
  have f8 : Exa Z h6 a_1 "java/util/ArrayDeque" := (pr_E_a_1.ext E6)
  have f9 : Fld Z h6 a_1 "java/util/ArrayDeque" "elements" "[Ljava/lang/Object;" w_elements_a_1 := (pr_F_a_1_elements.ext E6)
  obtain ⟨T10, h10, X10, e10, W10, st10⟩ := putF X6 hx hZ hown (host := "") (Or.inl (hw _ (List.mem_of_getElem? (i := 24) rfl))) Via.refl e6 f9 f8 (Or.inl (hw _ (List.mem_of_getElem? (i := 25) rfl))) (hw _ (List.mem_of_getElem? (i := 10) rfl)) (ty := (.array (.object "java/lang/Object"))) (by decide) rfl rfl (g := (mkF m 10 #[.val (.ref a_1)] [(.ref b6), (.ref a_1)])) rfl rfl (hb hby own_d3_10)
  have z11 := W10.size
  have K10 : Keep h0 h10 [a_1] := K6.wr W10 (Or.inl (List.mem_of_getElem? (i := 0) rfl))
  have N10 := Fr.snoc X10 N5 (by omega : n0 ≤ a_1)
  have Fw10 : Fld Z h10 a_1 "java/util/ArrayDeque" "elements" "[Ljava/lang/Object;" (.ref b6) := Fld.same W10 f9
  refine own_go (fun _ k => st10 _ k) ?_
  show own_Go _ _ _ _ T10 (mkF m 13 #[.val (.ref a_1)] [])
  obtain ⟨fs, hr, hrun, hended, hW, hsame⟩ := X10.leave (v := none) (fun _ => rfl)
  refine ⟨_, _, X10.returnOut hx Bd.returns (hb hby own_d3_13) hr, hrun, hended, _, _, rfl, ?_, ⟨_, rfl⟩, hW, hsame.mono (by rw [y5]; decide) (by rw [z5]; decide)⟩
  show own_Q3 Z a_1 w_elements_a_1 w_tail_a_1 w_head_a_1 h0 n0 _ T10.heap _
  rw [e10]
  have f13 : Exa Z h10 a_1 "java/util/ArrayDeque" := (f8.wr W10)
  have f14 : Fld Z h10 a_1 "java/util/ArrayDeque" "tail" "I" (.int w_tail_a_1) := ((pr_F_a_1_tail.ext E6).other W10 (Or.inr (slot_ne (Or.inl (hw _ (List.mem_of_getElem? (i := 39) rfl))) (Or.inl (hw _ (List.mem_of_getElem? (i := 25) rfl))) (by decide) (t := .int) (t' := (.array (.object "java/lang/Object"))) (by decide) (by decide))))
  have f15 : Fld Z h10 a_1 "java/util/ArrayDeque" "head" "I" (.int w_head_a_1) := ((pr_F_a_1_head.ext E6).other W10 (Or.inr (slot_ne (Or.inl (hw _ (List.mem_of_getElem? (i := 72) rfl))) (Or.inl (hw _ (List.mem_of_getElem? (i := 25) rfl))) (by decide) (t := .int) (t' := (.array (.object "java/lang/Object"))) (by decide) (by decide))))
  have f16 : own_AV Z h10 b6 (.object "java/lang/Object") (17 : Int32) (fun _ => .null) := (V_b6.other W10 (own_ne (by omega)))
  have f17 : own_OA Z h10 b6 "java/lang/Object" := (O_b6.wr W10)
  exact ⟨b6, rfl, N10, K10, f13, Fw10, f14, f15, f16, f17, (by omega)⟩
theorem own_d1_0 : decode prog_17_method_1_code 0 = .ok (.aload_n 0, 1) := by decide +kernel
theorem own_d1_1 : decode prog_17_method_1_code 1 = .ok (.invokespecial 1, 3) := by decide +kernel
theorem own_d1_4 : decode prog_17_method_1_code 4 = .ok (.aload_n 0, 1) := by decide +kernel
theorem own_d1_5 : decode prog_17_method_1_code 5 = .ok (.new 7, 3) := by decide +kernel
theorem own_d1_8 : decode prog_17_method_1_code 8 = .ok (.dup, 1) := by decide +kernel
theorem own_d1_9 : decode prog_17_method_1_code 9 = .ok (.invokespecial 9, 3) := by decide +kernel
theorem own_d1_12 : decode prog_17_method_1_code 12 = .ok (.putfield 10, 3) := by decide +kernel
theorem own_d1_15 : decode prog_17_method_1_code 15 = .ok (.return_, 1) := by decide +kernel
theorem own_ef_own_rm1 (m : MethodId) (x0 : Addr) : entryFrame m #[(.ref x0)] 1 = mkF m 0 #[.val (.ref x0)] [] := by first | (simp [entryFrame, mkF, argsToLocals, Value.category]; done) | rfl
def own_Q1 (Z : State) (a_1 : Addr) (w_unstored_a_1 : Value) (w_position_a_1 : Int64) (h0 : Heap) (n0 : Nat) (v : Option Value) (h : Heap) (L : List Loc) : Prop := ∃ (x_0 : Addr) (x_1 : Addr), v = none ∧ Fr n0 L ∧ Keep h0 h [a_1] ∧ Exa Z h a_1 "com/example/fencepost/fencepost/connector/SlotConfirmation" ∧ Fld Z h a_1 "com/example/fencepost/fencepost/connector/SlotConfirmation" "unstored" "Ljava/util/ArrayDeque;" (.ref x_0) ∧ Fld Z h a_1 "com/example/fencepost/fencepost/connector/SlotConfirmation" "position" "J" (.long w_position_a_1) ∧ Exa Z h x_0 "java/util/ArrayDeque" ∧ Fld Z h x_0 "java/util/ArrayDeque" "elements" "[Ljava/lang/Object;" (.ref x_1) ∧ Fld Z h x_0 "java/util/ArrayDeque" "tail" "I" (.int (0 : Int32)) ∧ Fld Z h x_0 "java/util/ArrayDeque" "head" "I" (.int (0 : Int32)) ∧ own_AV Z h x_1 (.object "java/lang/Object") (17 : Int32) (fun _ => .null) ∧ own_OA Z h x_1 "java/lang/Object" ∧ (h0.size ≤ x_0) ∧ (h0.size ≤ x_1) ∧ (own_lts [x_0, x_1])
set_option maxRecDepth 65536 in
set_option maxHeartbeats 40000000 in
theorem own_rm1 (l : Launch) (Z : State) (a0 : Array Value) (hw : ∀ d ∈ tables_1, d.before a0 Z = true) (ws : List Jvm.Cond) (a_1 : Addr) (w_unstored_a_1 : Value) (w_position_a_1 : Int64) (h0 : Heap) (n0 : Nat) (Z0 : n0 ≤ h0.size) (pr_E_a_1 : Exa Z h0 a_1 "com/example/fencepost/fencepost/connector/SlotConfirmation") (pr_F_a_1_unstored : Fld Z h0 a_1 "com/example/fencepost/fencepost/connector/SlotConfirmation" "unstored" "Ljava/util/ArrayDeque;" w_unstored_a_1) (pr_F_a_1_position : Fld Z h0 a_1 "com/example/fencepost/fencepost/connector/SlotConfirmation" "position" "J" (.long w_position_a_1)) (gw_a_1 : n0 ≤ a_1) :
    MetFree l (⟨"com/example/fencepost/fencepost/connector/SlotConfirmation", "<init>", "()V"⟩ : MethodName) (head1 (Jvm.Cond.code (⟨"com/example/fencepost/fencepost/connector/SlotConfirmation", "<init>", "()V"⟩ : MethodName) prog_17_method_1_code 1 none :: ws) ({ frames := 3, cells := 2, slots := 20, locals := 38 } : Room)) (fun a U => a = #[(.ref a_1)] ∧ Z.Warmed39 U.vm ∧ U.heap = h0) (fun _ _ _ _ _ => True) (fun _ U o U' => ∃ v L, o = .returned v ∧ own_Q1 Z a_1 w_unstored_a_1 w_position_a_1 h0 n0 v U'.heap L ∧ FrameEnd U o U' L ({ frames := 3, cells := 2, slots := 20, locals := 38 } : Room).cells ({ frames := 3, cells := 2, slots := 20, locals := 38 } : Room).slots) := by
  refine MetFree.of_bodySF (plainFor_of_name own_pn2) hisR ?_
  intro p e s m args below meth c s₁ Bd hml0 hP hK
  obtain ⟨rfl, hZ, hh⟩ := hP
  have hx := Bd.exec
  have hby := Bd.bytes
  have hml : c.maxLocals = 1 := hml0
  have hown : s.vm.findClass "com/example/fencepost/fencepost/connector/SlotConfirmation" = some m.cls := findClass_of_methodNamed Bd.named
  have hnm := (name_of_methodNamed Bd.named Bd.method).1
  have X0 : Stand p l e ({ frames := 3, cells := 2, slots := 20, locals := 38 } : Room) s m #[(.ref a_1)] below meth c s₁ [] 0 0 := Stand.of_body Bd
  have e0 : s₁.heap = h0 := by rw [← hh, Bd.state]; rfl
  have N0 := Fr.nil n0
  have z0 : n0 ≤ h0.size := Z0
  have z1 := own_lt pr_E_a_1.lt
  have z2 := own_lt pr_F_a_1_unstored.lt
  have z3 := own_lt pr_F_a_1_position.lt
  have K0 : Keep h0 h0 [a_1] := Keep.refl h0 _
  show own_Go p.tables e below (fun t o => t.status = .running ∧ Ended t below o ∧ ∃ v L, o = .returned v ∧ own_Q1 Z a_1 w_unstored_a_1 w_position_a_1 h0 n0 v t.heap L ∧ FrameEnd s o t L ({ frames := 3, cells := 2, slots := 20, locals := 38 } : Room).cells ({ frames := 3, cells := 2, slots := 20, locals := 38 } : Room).slots) s₁ (entryFrame m #[(.ref a_1)] 1)
  rw [own_ef_own_rm1 m a_1]
  show own_Go _ _ _ _ s₁ (mkF m 0 #[.val (.ref a_1)] [])
  refine own_go (fun _ k => XS.aloadN X0.here hx rfl (hb hby own_d1_0) rfl rfl k) ?_
  show own_Go _ _ _ _ s₁ (mkF m 1 #[.val (.ref a_1)] [(.ref a_1)])
  obtain ⟨T4, X4, e4, st4⟩ := initO X0 hx hZ hown (hw _ (List.mem_of_getElem? (i := 6) rfl)) (hw _ (List.mem_of_getElem? (i := 7) rfl)) (hw _ (List.mem_of_getElem? (i := 8) rfl)) e0 (g := (mkF m 1 #[.val (.ref a_1)] [(.ref a_1)])) rfl (by rw [hml]; rfl) rfl (hb hby own_d1_1) (by decide) (W := 0) (by show 2 * 0 + _ ≤ _; exact Nat.le_of_eq rfl) (by decide)
  refine own_go (fun _ k => st4 _ k) ?_
  show own_Go _ _ _ _ T4 (mkF m 4 #[.val (.ref a_1)] [])
  refine own_go (fun _ k => XS.aloadN X4.here hx rfl (hb hby own_d1_4) rfl rfl k) ?_
  show own_Go _ _ _ _ T4 (mkF m 5 #[.val (.ref a_1)] [(.ref a_1)])
  obtain ⟨T5, h5, X5, e5, E5, A5, D5, Y5, st5⟩ := newO X4 hx hZ hown (hw _ (List.mem_of_getElem? (i := 9) rfl)) (hw _ (List.mem_of_getElem? (i := 10) rfl)) (hw _ (List.mem_of_getElem? (i := 11) rfl)) e4 (g := (mkF m 5 #[.val (.ref a_1)] [(.ref a_1)])) rfl (hb hby own_d1_5) (by decide) (by decide)
  obtain ⟨b5, g5⟩ : ∃ z, z = h0.size := ⟨_, rfl⟩
  rw [← g5] at A5 D5 Y5 st5
  have z6 := E5.1
  have lt_b5 := own_lt A5.lt
  have K5 : Keep h0 h5 [a_1] := K0.ext E5
  have F_elements_b5 : Fld Z h5 b5 "java/util/ArrayDeque" "elements" "[Ljava/lang/Object;" .null := D5 (Or.inl (hw _ (List.mem_of_getElem? (i := 25) rfl))) (ty := (.array (.object "java/lang/Object"))) (by decide)
  have F_tail_b5 : Fld Z h5 b5 "java/util/ArrayDeque" "tail" "I" (.int (0 : Int32)) := D5 (Or.inl (hw _ (List.mem_of_getElem? (i := 39) rfl))) (ty := .int) (by decide)
  have F_head_b5 : Fld Z h5 b5 "java/util/ArrayDeque" "head" "I" (.int (0 : Int32)) := D5 (Or.inl (hw _ (List.mem_of_getElem? (i := 72) rfl))) (ty := .int) (by decide)
  refine own_go (fun _ k => st5 _ k) ?_
  show own_Go _ _ _ _ T5 (mkF m 8 #[.val (.ref a_1)] [(.ref b5), (.ref a_1)])
  refine own_go (fun _ k => XS.dup X5.here hx rfl (hb hby own_d1_8) rfl rfl k) ?_
  show own_Go _ _ _ _ T5 (mkF m 9 #[.val (.ref a_1)] [(.ref b5), (.ref b5), (.ref a_1)])
  obtain ⟨_, _, ⟨T7, L7, k7, n7⟩, -, X7, ⟨Lc7, hQ7, l7, y7, z7⟩, st7⟩ := X5.specialBack hx (y := (⟨"java/util/ArrayDeque", "<init>", "()V"⟩ : MethodName)) rfl hown (mvT hZ (hw _ (List.mem_of_getElem? (i := 12) rfl))) (mvT hZ (hw _ (List.mem_of_getElem? (i := 13) rfl))) (mvT hZ (hw _ (List.mem_of_getElem? (i := 14) rfl))) (by decide) (backOf (W := 2) (own_rm3 l Z a0 hw [] b5 .null (0 : Int32) (0 : Int32) h5 n0 (by omega) A5 F_elements_b5 F_tail_b5 F_head_b5 (by omega)) hZ (hw _ (List.mem_of_getElem? (i := 14) rfl)) (hw _ (List.mem_of_getElem? (i := 11) rfl)) (by decide) (by decide)) (g := (mkF m 9 #[.val (.ref a_1)] [(.ref b5), (.ref b5), (.ref a_1)])) rfl (by rw [hml]; rfl) (Steps.refl _) (a := b5) (argsL := []) (rest := [(.ref b5), (.ref a_1)]) (lenOf own_pd4 rfl) rfl (by show 2 * 0 + _ ≤ _; exact Nat.le_of_eq rfl) (hb hby own_d1_9) (fun _ _ => ⟨rfl, e5, (by decide : 1 + 1 ≤ _), (by decide : 3 + 17 ≤ _)⟩)
  dsimp only [Pt.U, Pt.locs, Pt.cells, Pt.slots] at X7 l7 y7 z7 st7 hQ7
  have y7 : k7 = 2 := y7
  have z7 : n7 = 20 := z7
  obtain ⟨x_8, rfl, N7q, K7q, f9, f10, f11, f12, f13, f14, f15⟩ := hQ7
  have N7 : Fr n0 L7 := by rw [l7]; exact Fr.app N0 N7q
  have z16 := K7q.1
  have K7 : Keep h0 T7.heap [a_1] := K5.trans K7q (allS (Or.inr (by omega)) all0)
  have z17 := own_lt f9.lt
  have z18 := own_lt f10.lt
  have z19 := own_lt f11.lt
  have z20 := own_lt f12.lt
  have z21 := own_lt f13.lt
  have z22 := own_lt f14.lt
  refine own_go (fun _ k => st7.trans k) ?_
  show own_Go _ _ _ _ T7 (mkF m 12 #[.val (.ref a_1)] [(.ref b5), (.ref a_1)])
  have f23 : Exa Z T7.heap a_1 "com/example/fencepost/fencepost/connector/SlotConfirmation" := ((pr_E_a_1.ext E5).keep K7q)
  have f24 : Fld Z T7.heap a_1 "com/example/fencepost/fencepost/connector/SlotConfirmation" "unstored" "Ljava/util/ArrayDeque;" w_unstored_a_1 := ((pr_F_a_1_unstored.ext E5).keep K7q (ninS (own_ne (by omega)) nin0))
  obtain ⟨T25, h25, X25, e25, W25, st25⟩ := putF X7 hx hZ hown (host := "") (Or.inl (hw _ (List.mem_of_getElem? (i := 26) rfl))) Via.refl rfl f24 f23 (Or.inr ⟨(hw _ (List.mem_of_getElem? (i := 27) rfl)), rfl, hnm⟩) (hw _ (List.mem_of_getElem? (i := 1) rfl)) (ty := (.object "java/util/ArrayDeque")) (by decide) rfl rfl (g := (mkF m 12 #[.val (.ref a_1)] [(.ref b5), (.ref a_1)])) rfl rfl (hb hby own_d1_12)
  have z26 := W25.size
  have K25 : Keep h0 h25 [a_1] := K7.wr W25 (Or.inl (List.mem_of_getElem? (i := 0) rfl))
  have N25 := Fr.snoc X25 N7 (by omega : n0 ≤ a_1)
  have Fw25 : Fld Z h25 a_1 "com/example/fencepost/fencepost/connector/SlotConfirmation" "unstored" "Ljava/util/ArrayDeque;" (.ref b5) := Fld.same W25 f24
  refine own_go (fun _ k => st25 _ k) ?_
  show own_Go _ _ _ _ T25 (mkF m 15 #[.val (.ref a_1)] [])
  obtain ⟨fs, hr, hrun, hended, hW, hsame⟩ := X25.leave (v := none) (fun _ => rfl)
  refine ⟨_, _, X25.returnOut hx Bd.returns (hb hby own_d1_15) hr, hrun, hended, _, _, rfl, ?_, ⟨_, rfl⟩, hW, hsame.mono (by rw [y7]; decide) (by rw [z7]; decide)⟩
  show own_Q1 Z a_1 w_unstored_a_1 w_position_a_1 h0 n0 _ T25.heap _
  rw [e25]
  have f28 : Exa Z h25 a_1 "com/example/fencepost/fencepost/connector/SlotConfirmation" := (f23.wr W25)
  have f29 : Fld Z h25 a_1 "com/example/fencepost/fencepost/connector/SlotConfirmation" "position" "J" (.long w_position_a_1) := (((pr_F_a_1_position.ext E5).keep K7q (ninS (own_ne (by omega)) nin0)).other W25 (Or.inr (slot_ne (Or.inl (hw _ (List.mem_of_getElem? (i := 104) rfl))) (Or.inr (hw _ (List.mem_of_getElem? (i := 27) rfl))) (by decide) (t := .long) (t' := (.object "java/util/ArrayDeque")) (by decide) (by decide))))
  have f30 : Exa Z h25 b5 "java/util/ArrayDeque" := (f9.wr W25)
  have f31 : Fld Z h25 b5 "java/util/ArrayDeque" "elements" "[Ljava/lang/Object;" (.ref x_8) := (f10.other W25 (Or.inl (own_ne (by omega))))
  have f32 : Fld Z h25 b5 "java/util/ArrayDeque" "tail" "I" (.int (0 : Int32)) := (f11.other W25 (Or.inl (own_ne (by omega))))
  have f33 : Fld Z h25 b5 "java/util/ArrayDeque" "head" "I" (.int (0 : Int32)) := (f12.other W25 (Or.inl (own_ne (by omega))))
  have f34 : own_AV Z h25 x_8 (.object "java/lang/Object") (17 : Int32) (fun _ => .null) := (f13.other W25 (own_ne (by omega)))
  have f35 : own_OA Z h25 x_8 "java/lang/Object" := (f14.wr W25)
  exact ⟨b5, x_8, rfl, N25, K25, f28, Fw25, f29, f30, f31, f32, f33, f34, f35, (by omega), (by omega), (by simp only [own_lts, and_true]; omega)⟩
theorem own_d9_0 : decode prog_18_method_1_code 0 = .ok (.aload_n 0, 1) := by decide +kernel
theorem own_d9_1 : decode prog_18_method_1_code 1 = .ok (.invokespecial 1, 3) := by decide +kernel
theorem own_d9_4 : decode prog_18_method_1_code 4 = .ok (.aload_n 0, 1) := by decide +kernel
theorem own_d9_5 : decode prog_18_method_1_code 5 = .ok (.ldc2_w 7, 3) := by decide +kernel
theorem own_d9_8 : decode prog_18_method_1_code 8 = .ok (.putfield 9, 3) := by decide +kernel
theorem own_d9_11 : decode prog_18_method_1_code 11 = .ok (.aload_n 0, 1) := by decide +kernel
theorem own_d9_12 : decode prog_18_method_1_code 12 = .ok (.lload_n 1, 1) := by decide +kernel
theorem own_d9_13 : decode prog_18_method_1_code 13 = .ok (.putfield 15, 3) := by decide +kernel
theorem own_d9_16 : decode prog_18_method_1_code 16 = .ok (.aload_n 0, 1) := by decide +kernel
theorem own_d9_17 : decode prog_18_method_1_code 17 = .ok (.lload_n 3, 1) := by decide +kernel
theorem own_d9_18 : decode prog_18_method_1_code 18 = .ok (.putfield 18, 3) := by decide +kernel
theorem own_d9_21 : decode prog_18_method_1_code 21 = .ok (.return_, 1) := by decide +kernel
theorem own_ef_own_rm9 (m : MethodId) (x0 : Addr) (x1 : Int64) (x2 : Int64) : entryFrame m #[(.ref x0), (.long x1), (.long x2)] 5 = mkF m 0 #[.val (.ref x0), .val (.long x1), .second, .val (.long x2), .second] [] := by first | (simp [entryFrame, mkF, argsToLocals, Value.category]; done) | rfl
def own_Q9 (Z : State) (a_1 : Addr) (q_2 : Int64) (q_3 : Int64) (w_changes_a_1 : Int64) (w_commit_a_1 : Int64) (w_stored_a_1 : Int64) (h0 : Heap) (n0 : Nat) (v : Option Value) (h : Heap) (L : List Loc) : Prop := v = none ∧ Fr n0 L ∧ Keep h0 h [a_1] ∧ Exa Z h a_1 "com/example/fencepost/fencepost/connector/SlotConfirmation$Transaction" ∧ Fld Z h a_1 "com/example/fencepost/fencepost/connector/SlotConfirmation$Transaction" "changes" "J" (.long (-1 : Int64)) ∧ Fld Z h a_1 "com/example/fencepost/fencepost/connector/SlotConfirmation$Transaction" "commit" "J" (.long q_2) ∧ Fld Z h a_1 "com/example/fencepost/fencepost/connector/SlotConfirmation$Transaction" "stored" "J" (.long q_3)
set_option maxRecDepth 65536 in
set_option maxHeartbeats 40000000 in
theorem own_rm9 (l : Launch) (Z : State) (a0 : Array Value) (hw : ∀ d ∈ tables_1, d.before a0 Z = true) (ws : List Jvm.Cond) (a_1 : Addr) (q_2 : Int64) (q_3 : Int64) (w_changes_a_1 : Int64) (w_commit_a_1 : Int64) (w_stored_a_1 : Int64) (h0 : Heap) (n0 : Nat) (Z0 : n0 ≤ h0.size) (pr_E_a_1 : Exa Z h0 a_1 "com/example/fencepost/fencepost/connector/SlotConfirmation$Transaction") (pr_F_a_1_changes : Fld Z h0 a_1 "com/example/fencepost/fencepost/connector/SlotConfirmation$Transaction" "changes" "J" (.long w_changes_a_1)) (pr_F_a_1_commit : Fld Z h0 a_1 "com/example/fencepost/fencepost/connector/SlotConfirmation$Transaction" "commit" "J" (.long w_commit_a_1)) (pr_F_a_1_stored : Fld Z h0 a_1 "com/example/fencepost/fencepost/connector/SlotConfirmation$Transaction" "stored" "J" (.long w_stored_a_1)) (gw_a_1 : n0 ≤ a_1) :
    MetFree l (⟨"com/example/fencepost/fencepost/connector/SlotConfirmation$Transaction", "<init>", "(JJ)V"⟩ : MethodName) (head1 (Jvm.Cond.code (⟨"com/example/fencepost/fencepost/connector/SlotConfirmation$Transaction", "<init>", "(JJ)V"⟩ : MethodName) prog_18_method_1_code 5 none :: ws) ({ frames := 1, cells := 0, slots := 0, locals := 12 } : Room)) (fun a U => a = #[(.ref a_1), (.long q_2), (.long q_3)] ∧ Z.Warmed39 U.vm ∧ U.heap = h0) (fun _ _ _ _ _ => True) (fun _ U o U' => ∃ v L, o = .returned v ∧ own_Q9 Z a_1 q_2 q_3 w_changes_a_1 w_commit_a_1 w_stored_a_1 h0 n0 v U'.heap L ∧ FrameEnd U o U' L ({ frames := 1, cells := 0, slots := 0, locals := 12 } : Room).cells ({ frames := 1, cells := 0, slots := 0, locals := 12 } : Room).slots) := by
  refine MetFree.of_bodySF (plainFor_of_name own_pn3) hisR ?_
  intro p e s m args below meth c s₁ Bd hml0 hP hK
  obtain ⟨rfl, hZ, hh⟩ := hP
  have hx := Bd.exec
  have hby := Bd.bytes
  have hml : c.maxLocals = 5 := hml0
  have hown : s.vm.findClass "com/example/fencepost/fencepost/connector/SlotConfirmation$Transaction" = some m.cls := findClass_of_methodNamed Bd.named
  have hnm := (name_of_methodNamed Bd.named Bd.method).1
  have X0 : Stand p l e ({ frames := 1, cells := 0, slots := 0, locals := 12 } : Room) s m #[(.ref a_1), (.long q_2), (.long q_3)] below meth c s₁ [] 0 0 := Stand.of_body Bd
  have e0 : s₁.heap = h0 := by rw [← hh, Bd.state]; rfl
  have N0 := Fr.nil n0
  have z0 : n0 ≤ h0.size := Z0
  have z1 := own_lt pr_E_a_1.lt
  have z2 := own_lt pr_F_a_1_changes.lt
  have z3 := own_lt pr_F_a_1_commit.lt
  have z4 := own_lt pr_F_a_1_stored.lt
  have K0 : Keep h0 h0 [a_1] := Keep.refl h0 _
  show own_Go p.tables e below (fun t o => t.status = .running ∧ Ended t below o ∧ ∃ v L, o = .returned v ∧ own_Q9 Z a_1 q_2 q_3 w_changes_a_1 w_commit_a_1 w_stored_a_1 h0 n0 v t.heap L ∧ FrameEnd s o t L ({ frames := 1, cells := 0, slots := 0, locals := 12 } : Room).cells ({ frames := 1, cells := 0, slots := 0, locals := 12 } : Room).slots) s₁ (entryFrame m #[(.ref a_1), (.long q_2), (.long q_3)] 5)
  rw [own_ef_own_rm9 m a_1 q_2 q_3]
  show own_Go _ _ _ _ s₁ (mkF m 0 #[.val (.ref a_1), .val (.long q_2), .second, .val (.long q_3), .second] [])
  refine own_go (fun _ k => XS.aloadN X0.here hx rfl (hb hby own_d9_0) rfl rfl k) ?_
  show own_Go _ _ _ _ s₁ (mkF m 1 #[.val (.ref a_1), .val (.long q_2), .second, .val (.long q_3), .second] [(.ref a_1)])
  obtain ⟨T5, X5, e5, st5⟩ := initO X0 hx hZ hown (hw _ (List.mem_of_getElem? (i := 52) rfl)) (hw _ (List.mem_of_getElem? (i := 7) rfl)) (hw _ (List.mem_of_getElem? (i := 8) rfl)) e0 (g := (mkF m 1 #[.val (.ref a_1), .val (.long q_2), .second, .val (.long q_3), .second] [(.ref a_1)])) rfl (by rw [hml]; rfl) rfl (hb hby own_d9_1) (by decide) (W := 0) (by show 2 * 0 + _ ≤ _; exact Nat.le_of_eq rfl) (by decide)
  refine own_go (fun _ k => st5 _ k) ?_
  show own_Go _ _ _ _ T5 (mkF m 4 #[.val (.ref a_1), .val (.long q_2), .second, .val (.long q_3), .second] [])
  refine own_go (fun _ k => XS.aloadN X5.here hx rfl (hb hby own_d9_4) rfl rfl k) ?_
  show own_Go _ _ _ _ T5 (mkF m 5 #[.val (.ref a_1), .val (.long q_2), .second, .val (.long q_3), .second] [(.ref a_1)])
  refine own_go (fun _ k => X5.ldc2Long hx hown (mvT hZ (hw _ (List.mem_of_getElem? (i := 53) rfl))) (g := (mkF m 5 #[.val (.ref a_1), .val (.long q_2), .second, .val (.long q_3), .second] [(.ref a_1)])) rfl (hb hby own_d9_5) _ k) ?_
  show own_Go _ _ _ _ T5 (mkF m 8 #[.val (.ref a_1), .val (.long q_2), .second, .val (.long q_3), .second] [(.long (-1 : Int64)), (.ref a_1)])
  obtain ⟨T6, h6, X6, e6, W6, st6⟩ := putF X5 hx hZ hown (host := "") (Or.inl (hw _ (List.mem_of_getElem? (i := 54) rfl))) Via.refl e5 pr_F_a_1_changes pr_E_a_1 (Or.inl (hw _ (List.mem_of_getElem? (i := 55) rfl))) (hw _ (List.mem_of_getElem? (i := 47) rfl)) (ty := .long) (by decide) rfl rfl (g := (mkF m 8 #[.val (.ref a_1), .val (.long q_2), .second, .val (.long q_3), .second] [(.long (-1 : Int64)), (.ref a_1)])) rfl rfl (hb hby own_d9_8)
  have z7 := W6.size
  have K6 : Keep h0 h6 [a_1] := K0.wr W6 (Or.inl (List.mem_of_getElem? (i := 0) rfl))
  have N6 := Fr.snoc X6 N0 (by omega : n0 ≤ a_1)
  have Fw6 : Fld Z h6 a_1 "com/example/fencepost/fencepost/connector/SlotConfirmation$Transaction" "changes" "J" (.long (-1 : Int64)) := Fld.same W6 pr_F_a_1_changes
  refine own_go (fun _ k => st6 _ k) ?_
  show own_Go _ _ _ _ T6 (mkF m 11 #[.val (.ref a_1), .val (.long q_2), .second, .val (.long q_3), .second] [])
  refine own_go (fun _ k => XS.aloadN X6.here hx rfl (hb hby own_d9_11) rfl rfl k) ?_
  show own_Go _ _ _ _ T6 (mkF m 12 #[.val (.ref a_1), .val (.long q_2), .second, .val (.long q_3), .second] [(.ref a_1)])
  refine own_go (fun _ k => XS.lloadN X6.here hx rfl (hb hby own_d9_12) rfl k) ?_
  show own_Go _ _ _ _ T6 (mkF m 13 #[.val (.ref a_1), .val (.long q_2), .second, .val (.long q_3), .second] [(.long q_2), (.ref a_1)])
  have f8 : Exa Z h6 a_1 "com/example/fencepost/fencepost/connector/SlotConfirmation$Transaction" := (pr_E_a_1.wr W6)
  have f9 : Fld Z h6 a_1 "com/example/fencepost/fencepost/connector/SlotConfirmation$Transaction" "commit" "J" (.long w_commit_a_1) := (pr_F_a_1_commit.other W6 (Or.inr (slot_ne (Or.inr (hw _ (List.mem_of_getElem? (i := 57) rfl))) (Or.inl (hw _ (List.mem_of_getElem? (i := 55) rfl))) (by decide) (t := .long) (t' := .long) (by decide) (by decide))))
  obtain ⟨T10, h10, X10, e10, W10, st10⟩ := putF X6 hx hZ hown (host := "") (Or.inl (hw _ (List.mem_of_getElem? (i := 56) rfl))) Via.refl e6 f9 f8 (Or.inr ⟨(hw _ (List.mem_of_getElem? (i := 57) rfl)), rfl, hnm⟩) (hw _ (List.mem_of_getElem? (i := 47) rfl)) (ty := .long) (by decide) rfl rfl (g := (mkF m 13 #[.val (.ref a_1), .val (.long q_2), .second, .val (.long q_3), .second] [(.long q_2), (.ref a_1)])) rfl rfl (hb hby own_d9_13)
  have z11 := W10.size
  have K10 : Keep h0 h10 [a_1] := K6.wr W10 (Or.inl (List.mem_of_getElem? (i := 0) rfl))
  have N10 := Fr.snoc X10 N6 (by omega : n0 ≤ a_1)
  have Fw10 : Fld Z h10 a_1 "com/example/fencepost/fencepost/connector/SlotConfirmation$Transaction" "commit" "J" (.long q_2) := Fld.same W10 f9
  refine own_go (fun _ k => st10 _ k) ?_
  show own_Go _ _ _ _ T10 (mkF m 16 #[.val (.ref a_1), .val (.long q_2), .second, .val (.long q_3), .second] [])
  refine own_go (fun _ k => XS.aloadN X10.here hx rfl (hb hby own_d9_16) rfl rfl k) ?_
  show own_Go _ _ _ _ T10 (mkF m 17 #[.val (.ref a_1), .val (.long q_2), .second, .val (.long q_3), .second] [(.ref a_1)])
  refine own_go (fun _ k => XS.lloadN X10.here hx rfl (hb hby own_d9_17) rfl k) ?_
  show own_Go _ _ _ _ T10 (mkF m 18 #[.val (.ref a_1), .val (.long q_2), .second, .val (.long q_3), .second] [(.long q_3), (.ref a_1)])
  have f12 : Exa Z h10 a_1 "com/example/fencepost/fencepost/connector/SlotConfirmation$Transaction" := (f8.wr W10)
  have f13 : Fld Z h10 a_1 "com/example/fencepost/fencepost/connector/SlotConfirmation$Transaction" "stored" "J" (.long w_stored_a_1) := ((pr_F_a_1_stored.other W6 (Or.inr (slot_ne (Or.inl (hw _ (List.mem_of_getElem? (i := 59) rfl))) (Or.inl (hw _ (List.mem_of_getElem? (i := 55) rfl))) (by decide) (t := .long) (t' := .long) (by decide) (by decide)))).other W10 (Or.inr (slot_ne (Or.inl (hw _ (List.mem_of_getElem? (i := 59) rfl))) (Or.inr (hw _ (List.mem_of_getElem? (i := 57) rfl))) (by decide) (t := .long) (t' := .long) (by decide) (by decide))))
  obtain ⟨T14, h14, X14, e14, W14, st14⟩ := putF X10 hx hZ hown (host := "") (Or.inl (hw _ (List.mem_of_getElem? (i := 58) rfl))) Via.refl e10 f13 f12 (Or.inl (hw _ (List.mem_of_getElem? (i := 59) rfl))) (hw _ (List.mem_of_getElem? (i := 47) rfl)) (ty := .long) (by decide) rfl rfl (g := (mkF m 18 #[.val (.ref a_1), .val (.long q_2), .second, .val (.long q_3), .second] [(.long q_3), (.ref a_1)])) rfl rfl (hb hby own_d9_18)
  have z15 := W14.size
  have K14 : Keep h0 h14 [a_1] := K10.wr W14 (Or.inl (List.mem_of_getElem? (i := 0) rfl))
  have N14 := Fr.snoc X14 N10 (by omega : n0 ≤ a_1)
  have Fw14 : Fld Z h14 a_1 "com/example/fencepost/fencepost/connector/SlotConfirmation$Transaction" "stored" "J" (.long q_3) := Fld.same W14 f13
  refine own_go (fun _ k => st14 _ k) ?_
  show own_Go _ _ _ _ T14 (mkF m 21 #[.val (.ref a_1), .val (.long q_2), .second, .val (.long q_3), .second] [])
  obtain ⟨fs, hr, hrun, hended, hW, hsame⟩ := X14.leave (v := none) (fun _ => rfl)
  refine ⟨_, _, X14.returnOut hx Bd.returns (hb hby own_d9_21) hr, hrun, hended, _, _, rfl, ?_, ⟨_, rfl⟩, hW, hsame.mono (by decide) (by decide)⟩
  show own_Q9 Z a_1 q_2 q_3 w_changes_a_1 w_commit_a_1 w_stored_a_1 h0 n0 _ T14.heap _
  rw [e14]
  have f17 : Exa Z h14 a_1 "com/example/fencepost/fencepost/connector/SlotConfirmation$Transaction" := (f12.wr W14)
  have f18 : Fld Z h14 a_1 "com/example/fencepost/fencepost/connector/SlotConfirmation$Transaction" "changes" "J" (.long (-1 : Int64)) := ((Fw6.other W10 (Or.inr (slot_ne (Or.inl (hw _ (List.mem_of_getElem? (i := 55) rfl))) (Or.inr (hw _ (List.mem_of_getElem? (i := 57) rfl))) (by decide) (t := .long) (t' := .long) (by decide) (by decide)))).other W14 (Or.inr (slot_ne (Or.inl (hw _ (List.mem_of_getElem? (i := 55) rfl))) (Or.inl (hw _ (List.mem_of_getElem? (i := 59) rfl))) (by decide) (t := .long) (t' := .long) (by decide) (by decide))))
  have f19 : Fld Z h14 a_1 "com/example/fencepost/fencepost/connector/SlotConfirmation$Transaction" "commit" "J" (.long q_2) := (Fw10.other W14 (Or.inr (slot_ne (Or.inr (hw _ (List.mem_of_getElem? (i := 57) rfl))) (Or.inl (hw _ (List.mem_of_getElem? (i := 59) rfl))) (by decide) (t := .long) (t' := .long) (by decide) (by decide))))
  exact ⟨rfl, N14, K14, f17, f18, f19, Fw14⟩
theorem own_d20_0 : decode jdk_29_method_66_code 0 = .ok (.lload_n 0, 1) := by decide +kernel
theorem own_d20_1 : decode jdk_29_method_66_code 1 = .ok (.lload_n 2, 1) := by decide +kernel
theorem own_d20_2 : decode jdk_29_method_66_code 2 = .ok (.lcmp, 1) := by decide +kernel
theorem own_d20_3 : decode jdk_29_method_66_code 3 = .ok (.ifCond .lt 7, 3) := by decide +kernel
theorem own_d20_6 : decode jdk_29_method_66_code 6 = .ok (.lload_n 0, 1) := by decide +kernel
theorem own_d20_7 : decode jdk_29_method_66_code 7 = .ok (.goto 4, 3) := by decide +kernel
theorem own_d20_10 : decode jdk_29_method_66_code 10 = .ok (.lload_n 2, 1) := by decide +kernel
theorem own_d20_11 : decode jdk_29_method_66_code 11 = .ok (.lreturn, 1) := by decide +kernel
theorem own_ef_own_rm20 (m : MethodId) (x0 : Int64) (x1 : Int64) : entryFrame m #[(.long x0), (.long x1)] 4 = mkF m 0 #[.val (.long x0), .second, .val (.long x1), .second] [] := by first | (simp [entryFrame, mkF, argsToLocals, Value.category]; done) | rfl
def own_rm20_ret (q_1 : Int64) (q_2 : Int64) : Int64 := if q_1 < q_2 then q_2 else q_1
def own_Q20 (Z : State) (q_1 : Int64) (q_2 : Int64) (h0 : Heap) (n0 : Nat) (v : Option Value) (h : Heap) (L : List Loc) : Prop := ∃ (r_ : Int64), v = some (.long r_) ∧ Fr n0 L ∧ r_ = (own_rm20_ret q_1 q_2) ∧ h = h0
set_option maxRecDepth 65536 in
set_option maxHeartbeats 40000000 in
theorem own_rm20 (l : Launch) (Z : State) (a0 : Array Value) (hw : ∀ d ∈ tables_1, d.before a0 Z = true) (ws : List Jvm.Cond) (q_1 : Int64) (q_2 : Int64) (h0 : Heap) (n0 : Nat) (Z0 : n0 ≤ h0.size) :
    MetFree l (⟨"java/lang/Math", "max", "(JJ)J"⟩ : MethodName) (head1 (Jvm.Cond.code (⟨"java/lang/Math", "max", "(JJ)J"⟩ : MethodName) jdk_29_method_66_code 4 (some .long) :: ws) ({ frames := 0, cells := 0, slots := 0, locals := 0 } : Room)) (fun a U => a = #[(.long q_1), (.long q_2)] ∧ Z.Warmed39 U.vm ∧ U.heap = h0) (fun _ _ _ _ _ => True) (fun _ U o U' => ∃ v L, o = .returned v ∧ own_Q20 Z q_1 q_2 h0 n0 v U'.heap L ∧ FrameEnd U o U' L ({ frames := 0, cells := 0, slots := 0, locals := 0 } : Room).cells ({ frames := 0, cells := 0, slots := 0, locals := 0 } : Room).slots) := by
  refine MetFree.of_bodySF (Jvm.Free.JP.mathPlain rfl (by decide +kernel)) hisR ?_
  intro p e s m args below meth c s₁ Bd hml0 hP hK
  obtain ⟨rfl, hZ, hh⟩ := hP
  have hx := Bd.exec
  have hby := Bd.bytes
  have hml : c.maxLocals = 4 := hml0
  have hown : s.vm.findClass "java/lang/Math" = some m.cls := findClass_of_methodNamed Bd.named
  have hnm := (name_of_methodNamed Bd.named Bd.method).1
  have X0 : Stand p l e ({ frames := 0, cells := 0, slots := 0, locals := 0 } : Room) s m #[(.long q_1), (.long q_2)] below meth c s₁ [] 0 0 := Stand.of_body Bd
  have e0 : s₁.heap = h0 := by rw [← hh, Bd.state]; rfl
  have N0 := Fr.nil n0
  have z0 : n0 ≤ h0.size := Z0
  show own_Go p.tables e below (fun t o => t.status = .running ∧ Ended t below o ∧ ∃ v L, o = .returned v ∧ own_Q20 Z q_1 q_2 h0 n0 v t.heap L ∧ FrameEnd s o t L ({ frames := 0, cells := 0, slots := 0, locals := 0 } : Room).cells ({ frames := 0, cells := 0, slots := 0, locals := 0 } : Room).slots) s₁ (entryFrame m #[(.long q_1), (.long q_2)] 4)
  rw [own_ef_own_rm20 m q_1 q_2]
  show own_Go _ _ _ _ s₁ (mkF m 0 #[.val (.long q_1), .second, .val (.long q_2), .second] [])
  refine own_go (fun _ k => XS.lloadN X0.here hx rfl (hb hby own_d20_0) rfl k) ?_
  show own_Go _ _ _ _ s₁ (mkF m 1 #[.val (.long q_1), .second, .val (.long q_2), .second] [(.long q_1)])
  refine own_go (fun _ k => XS.lloadN X0.here hx rfl (hb hby own_d20_1) rfl k) ?_
  show own_Go _ _ _ _ s₁ (mkF m 2 #[.val (.long q_1), .second, .val (.long q_2), .second] [(.long q_2), (.long q_1)])
  refine own_go (fun _ k => XS.lcmp X0.here hx rfl (hb hby own_d20_2) rfl k) ?_
  show own_Go _ _ _ _ s₁ (mkF m 3 #[.val (.long q_1), .second, .val (.long q_2), .second] [(.int (lcmpW q_1 q_2))])
  by_cases hc1 : q_1 < q_2
  · refine own_go (fun _ k => XS.ifYes X0.here hx rfl (pc0 := 3) (pc' := 10) rfl (hb hby own_d20_3) rfl (Jvm.Free.XT.ll_lt_t hc1) (by decide) (by decide) k) ?_
    show own_Go _ _ _ _ s₁ (mkF m 10 #[.val (.long q_1), .second, .val (.long q_2), .second] [])
    refine own_go (fun _ k => XS.lloadN X0.here hx rfl (hb hby own_d20_10) rfl k) ?_
    show own_Go _ _ _ _ s₁ (mkF m 11 #[.val (.long q_1), .second, .val (.long q_2), .second] [(.long q_2)])
    obtain ⟨fs, hr, hrun, hended, hW, hsame⟩ := X0.leave (v := some (.long q_2)) (fun h => by rw [Bd.returns] at h; cases h)
    refine ⟨_, _, retOut X0 hx Bd.returns rfl (Or.inr (Or.inl ⟨rfl, rfl, _, rfl⟩)) (hb hby own_d20_11) hr, hrun, hended, _, _, rfl, ?_, ⟨_, rfl⟩, hW, hsame.mono (by decide) (by decide)⟩
    show own_Q20 Z q_1 q_2 h0 n0 _ s₁.heap _
    rw [e0]
    exact ⟨_, rfl, N0, (by first | rfl | simp only [own_rm20_ret, if_pos hc1]), rfl⟩
  · refine own_go (fun _ k => XS.ifNo X0.here hx rfl (hb hby own_d20_3) rfl (Jvm.Free.XT.ll_lt_f hc1) k) ?_
    show own_Go _ _ _ _ s₁ (mkF m 6 #[.val (.long q_1), .second, .val (.long q_2), .second] [])
    refine own_go (fun _ k => XS.lloadN X0.here hx rfl (hb hby own_d20_6) rfl k) ?_
    show own_Go _ _ _ _ s₁ (mkF m 7 #[.val (.long q_1), .second, .val (.long q_2), .second] [(.long q_1)])
    refine own_go (fun _ k => XS.goto X0.here hx rfl (pc0 := 7) (pc' := 11) rfl (hb hby own_d20_7) (by decide) (by decide) k) ?_
    show own_Go _ _ _ _ s₁ (mkF m 11 #[.val (.long q_1), .second, .val (.long q_2), .second] [(.long q_1)])
    obtain ⟨fs, hr, hrun, hended, hW, hsame⟩ := X0.leave (v := some (.long q_1)) (fun h => by rw [Bd.returns] at h; cases h)
    refine ⟨_, _, retOut X0 hx Bd.returns rfl (Or.inr (Or.inl ⟨rfl, rfl, _, rfl⟩)) (hb hby own_d20_11) hr, hrun, hended, _, _, rfl, ?_, ⟨_, rfl⟩, hW, hsame.mono (by decide) (by decide)⟩
    show own_Q20 Z q_1 q_2 h0 n0 _ s₁.heap _
    rw [e0]
    exact ⟨_, rfl, N0, (by first | rfl | simp only [own_rm20_ret, if_neg hc1]), rfl⟩
theorem own_d21_0 : decode prog_17_method_2_code 0 = .ok (.aload_n 0, 1) := by decide +kernel
theorem own_d21_1 : decode prog_17_method_2_code 1 = .ok (.getfield 16, 3) := by decide +kernel
theorem own_d21_4 : decode prog_17_method_2_code 4 = .ok (.lreturn, 1) := by decide +kernel
theorem own_ef_own_rm21 (m : MethodId) (x0 : Addr) : entryFrame m #[(.ref x0)] 1 = mkF m 0 #[.val (.ref x0)] [] := by first | (simp [entryFrame, mkF, argsToLocals, Value.category]; done) | rfl
def own_Q21 (Z : State) (a_1 : Addr) (w_position_a_1 : Int64) (h0 : Heap) (n0 : Nat) (v : Option Value) (h : Heap) (L : List Loc) : Prop := v = some (.long w_position_a_1) ∧ Fr n0 L ∧ h = h0
set_option maxRecDepth 65536 in
set_option maxHeartbeats 40000000 in
theorem own_rm21 (l : Launch) (Z : State) (a0 : Array Value) (hw : ∀ d ∈ tables_1, d.before a0 Z = true) (ws : List Jvm.Cond) (a_1 : Addr) (w_position_a_1 : Int64) (h0 : Heap) (n0 : Nat) (Z0 : n0 ≤ h0.size) (pr_F_a_1_position : Fld Z h0 a_1 "com/example/fencepost/fencepost/connector/SlotConfirmation" "position" "J" (.long w_position_a_1)) :
    MetFree l (⟨"com/example/fencepost/fencepost/connector/SlotConfirmation", "position", "()J"⟩ : MethodName) (head1 (Jvm.Cond.code (⟨"com/example/fencepost/fencepost/connector/SlotConfirmation", "position", "()J"⟩ : MethodName) prog_17_method_2_code 1 (some .long) :: ws) ({ frames := 0, cells := 0, slots := 0, locals := 0 } : Room)) (fun a U => a = #[(.ref a_1)] ∧ Z.Warmed39 U.vm ∧ U.heap = h0) (fun _ _ _ _ _ => True) (fun _ U o U' => ∃ v L, o = .returned v ∧ own_Q21 Z a_1 w_position_a_1 h0 n0 v U'.heap L ∧ FrameEnd U o U' L ({ frames := 0, cells := 0, slots := 0, locals := 0 } : Room).cells ({ frames := 0, cells := 0, slots := 0, locals := 0 } : Room).slots) := by
  refine MetFree.of_bodySF (plainFor_of_name own_pn2) hisR ?_
  intro p e s m args below meth c s₁ Bd hml0 hP hK
  obtain ⟨rfl, hZ, hh⟩ := hP
  have hx := Bd.exec
  have hby := Bd.bytes
  have hml : c.maxLocals = 1 := hml0
  have hown : s.vm.findClass "com/example/fencepost/fencepost/connector/SlotConfirmation" = some m.cls := findClass_of_methodNamed Bd.named
  have hnm := (name_of_methodNamed Bd.named Bd.method).1
  have X0 : Stand p l e ({ frames := 0, cells := 0, slots := 0, locals := 0 } : Room) s m #[(.ref a_1)] below meth c s₁ [] 0 0 := Stand.of_body Bd
  have e0 : s₁.heap = h0 := by rw [← hh, Bd.state]; rfl
  have N0 := Fr.nil n0
  have z0 : n0 ≤ h0.size := Z0
  have z1 := own_lt pr_F_a_1_position.lt
  show own_Go p.tables e below (fun t o => t.status = .running ∧ Ended t below o ∧ ∃ v L, o = .returned v ∧ own_Q21 Z a_1 w_position_a_1 h0 n0 v t.heap L ∧ FrameEnd s o t L ({ frames := 0, cells := 0, slots := 0, locals := 0 } : Room).cells ({ frames := 0, cells := 0, slots := 0, locals := 0 } : Room).slots) s₁ (entryFrame m #[(.ref a_1)] 1)
  rw [own_ef_own_rm21 m a_1]
  show own_Go _ _ _ _ s₁ (mkF m 0 #[.val (.ref a_1)] [])
  refine own_go (fun _ k => XS.aloadN X0.here hx rfl (hb hby own_d21_0) rfl rfl k) ?_
  show own_Go _ _ _ _ s₁ (mkF m 1 #[.val (.ref a_1)] [(.ref a_1)])
  obtain ⟨T2, X2, e2, st2⟩ := getF X0 hx hZ hown (host := "") (Or.inl (hw _ (List.mem_of_getElem? (i := 103) rfl))) Via.refl e0 pr_F_a_1_position (g := (mkF m 1 #[.val (.ref a_1)] [(.ref a_1)])) rfl rfl (hb hby own_d21_1)
  refine own_go (fun _ k => st2 _ k) ?_
  show own_Go _ _ _ _ T2 (mkF m 4 #[.val (.ref a_1)] [(.long w_position_a_1)])
  obtain ⟨fs, hr, hrun, hended, hW, hsame⟩ := X2.leave (v := some (.long w_position_a_1)) (fun h => by rw [Bd.returns] at h; cases h)
  refine ⟨_, _, retOut X2 hx Bd.returns rfl (Or.inr (Or.inl ⟨rfl, rfl, _, rfl⟩)) (hb hby own_d21_4) hr, hrun, hended, _, _, rfl, ?_, ⟨_, rfl⟩, hW, hsame.mono (by decide) (by decide)⟩
  show own_Q21 Z a_1 w_position_a_1 h0 n0 _ T2.heap _
  rw [e2]
  exact ⟨rfl, N0, rfl⟩
theorem own_d22_0 : decode method_2_code 0 = .ok (.lload_n 0, 1) := by decide +kernel
theorem own_d22_1 : decode method_2_code 1 = .ok (.lload_n 2, 1) := by decide +kernel
theorem own_d22_2 : decode method_2_code 2 = .ok (.lcmp, 1) := by decide +kernel
theorem own_d22_3 : decode method_2_code 3 = .ok (.ifCond .le 7, 3) := by decide +kernel
theorem own_d22_6 : decode method_2_code 6 = .ok (.lload_n 0, 1) := by decide +kernel
theorem own_d22_7 : decode method_2_code 7 = .ok (.goto 4, 3) := by decide +kernel
theorem own_d22_10 : decode method_2_code 10 = .ok (.lload_n 2, 1) := by decide +kernel
theorem own_d22_11 : decode method_2_code 11 = .ok (.lreturn, 1) := by decide +kernel
theorem own_ef_own_rm22 (m : MethodId) (x0 : Int64) (x1 : Int64) : entryFrame m #[(.long x0), (.long x1)] 4 = mkF m 0 #[.val (.long x0), .second, .val (.long x1), .second] [] := by first | (simp [entryFrame, mkF, argsToLocals, Value.category]; done) | rfl
def own_rm22_ret (q_1 : Int64) (q_2 : Int64) : Int64 := if q_2 < q_1 then q_1 else q_2
def own_Q22 (Z : State) (q_1 : Int64) (q_2 : Int64) (h0 : Heap) (n0 : Nat) (v : Option Value) (h : Heap) (L : List Loc) : Prop := ∃ (r_ : Int64), v = some (.long r_) ∧ Fr n0 L ∧ r_ = (own_rm22_ret q_1 q_2) ∧ h = h0
set_option maxRecDepth 65536 in
set_option maxHeartbeats 40000000 in
theorem own_rm22 (l : Launch) (Z : State) (a0 : Array Value) (hw : ∀ d ∈ tables_1, d.before a0 Z = true) (ws : List Jvm.Cond) (q_1 : Int64) (q_2 : Int64) (h0 : Heap) (n0 : Nat) (Z0 : n0 ≤ h0.size) :
    MetFree l (⟨"com/example/fencepost/fencepost/connector/SlotConfirmationIdlePinLaw", "max", "(JJ)J"⟩ : MethodName) (head1 (Jvm.Cond.code (⟨"com/example/fencepost/fencepost/connector/SlotConfirmationIdlePinLaw", "max", "(JJ)J"⟩ : MethodName) method_2_code 4 (some .long) :: ws) ({ frames := 0, cells := 0, slots := 0, locals := 0 } : Room)) (fun a U => a = #[(.long q_1), (.long q_2)] ∧ Z.Warmed39 U.vm ∧ U.heap = h0) (fun _ _ _ _ _ => True) (fun _ U o U' => ∃ v L, o = .returned v ∧ own_Q22 Z q_1 q_2 h0 n0 v U'.heap L ∧ FrameEnd U o U' L ({ frames := 0, cells := 0, slots := 0, locals := 0 } : Room).cells ({ frames := 0, cells := 0, slots := 0, locals := 0 } : Room).slots) := by
  refine MetFree.of_bodySF (plainFor_of_name own_pn4) hisR ?_
  intro p e s m args below meth c s₁ Bd hml0 hP hK
  obtain ⟨rfl, hZ, hh⟩ := hP
  have hx := Bd.exec
  have hby := Bd.bytes
  have hml : c.maxLocals = 4 := hml0
  have hown : s.vm.findClass "com/example/fencepost/fencepost/connector/SlotConfirmationIdlePinLaw" = some m.cls := findClass_of_methodNamed Bd.named
  have hnm := (name_of_methodNamed Bd.named Bd.method).1
  have X0 : Stand p l e ({ frames := 0, cells := 0, slots := 0, locals := 0 } : Room) s m #[(.long q_1), (.long q_2)] below meth c s₁ [] 0 0 := Stand.of_body Bd
  have e0 : s₁.heap = h0 := by rw [← hh, Bd.state]; rfl
  have N0 := Fr.nil n0
  have z0 : n0 ≤ h0.size := Z0
  show own_Go p.tables e below (fun t o => t.status = .running ∧ Ended t below o ∧ ∃ v L, o = .returned v ∧ own_Q22 Z q_1 q_2 h0 n0 v t.heap L ∧ FrameEnd s o t L ({ frames := 0, cells := 0, slots := 0, locals := 0 } : Room).cells ({ frames := 0, cells := 0, slots := 0, locals := 0 } : Room).slots) s₁ (entryFrame m #[(.long q_1), (.long q_2)] 4)
  rw [own_ef_own_rm22 m q_1 q_2]
  show own_Go _ _ _ _ s₁ (mkF m 0 #[.val (.long q_1), .second, .val (.long q_2), .second] [])
  refine own_go (fun _ k => XS.lloadN X0.here hx rfl (hb hby own_d22_0) rfl k) ?_
  show own_Go _ _ _ _ s₁ (mkF m 1 #[.val (.long q_1), .second, .val (.long q_2), .second] [(.long q_1)])
  refine own_go (fun _ k => XS.lloadN X0.here hx rfl (hb hby own_d22_1) rfl k) ?_
  show own_Go _ _ _ _ s₁ (mkF m 2 #[.val (.long q_1), .second, .val (.long q_2), .second] [(.long q_2), (.long q_1)])
  refine own_go (fun _ k => XS.lcmp X0.here hx rfl (hb hby own_d22_2) rfl k) ?_
  show own_Go _ _ _ _ s₁ (mkF m 3 #[.val (.long q_1), .second, .val (.long q_2), .second] [(.int (lcmpW q_1 q_2))])
  by_cases hc1 : q_2 < q_1
  · refine own_go (fun _ k => XS.ifNo X0.here hx rfl (hb hby own_d22_3) rfl (Jvm.Free.XT.ll_le_f hc1) k) ?_
    show own_Go _ _ _ _ s₁ (mkF m 6 #[.val (.long q_1), .second, .val (.long q_2), .second] [])
    refine own_go (fun _ k => XS.lloadN X0.here hx rfl (hb hby own_d22_6) rfl k) ?_
    show own_Go _ _ _ _ s₁ (mkF m 7 #[.val (.long q_1), .second, .val (.long q_2), .second] [(.long q_1)])
    refine own_go (fun _ k => XS.goto X0.here hx rfl (pc0 := 7) (pc' := 11) rfl (hb hby own_d22_7) (by decide) (by decide) k) ?_
    show own_Go _ _ _ _ s₁ (mkF m 11 #[.val (.long q_1), .second, .val (.long q_2), .second] [(.long q_1)])
    obtain ⟨fs, hr, hrun, hended, hW, hsame⟩ := X0.leave (v := some (.long q_1)) (fun h => by rw [Bd.returns] at h; cases h)
    refine ⟨_, _, retOut X0 hx Bd.returns rfl (Or.inr (Or.inl ⟨rfl, rfl, _, rfl⟩)) (hb hby own_d22_11) hr, hrun, hended, _, _, rfl, ?_, ⟨_, rfl⟩, hW, hsame.mono (by decide) (by decide)⟩
    show own_Q22 Z q_1 q_2 h0 n0 _ s₁.heap _
    rw [e0]
    exact ⟨_, rfl, N0, (by first | rfl | simp only [own_rm22_ret, if_pos hc1]), rfl⟩
  · refine own_go (fun _ k => XS.ifYes X0.here hx rfl (pc0 := 3) (pc' := 10) rfl (hb hby own_d22_3) rfl (Jvm.Free.XT.ll_le_t hc1) (by decide) (by decide) k) ?_
    show own_Go _ _ _ _ s₁ (mkF m 10 #[.val (.long q_1), .second, .val (.long q_2), .second] [])
    refine own_go (fun _ k => XS.lloadN X0.here hx rfl (hb hby own_d22_10) rfl k) ?_
    show own_Go _ _ _ _ s₁ (mkF m 11 #[.val (.long q_1), .second, .val (.long q_2), .second] [(.long q_2)])
    obtain ⟨fs, hr, hrun, hended, hW, hsame⟩ := X0.leave (v := some (.long q_2)) (fun h => by rw [Bd.returns] at h; cases h)
    refine ⟨_, _, retOut X0 hx Bd.returns rfl (Or.inr (Or.inl ⟨rfl, rfl, _, rfl⟩)) (hb hby own_d22_11) hr, hrun, hended, _, _, rfl, ?_, ⟨_, rfl⟩, hW, hsame.mono (by decide) (by decide)⟩
    show own_Q22 Z q_1 q_2 h0 n0 _ s₁.heap _
    rw [e0]
    exact ⟨_, rfl, N0, (by first | rfl | simp only [own_rm22_ret, if_neg hc1]), rfl⟩
theorem own_d5_0 : decode prog_17_method_3_code 0 = .ok (.aload_n 0, 1) := by decide +kernel
theorem own_d5_1 : decode prog_17_method_3_code 1 = .ok (.getfield 10, 3) := by decide +kernel
theorem own_d5_4 : decode prog_17_method_3_code 4 = .ok (.invokevirtual 20, 3) := by decide +kernel
theorem own_d5_7 : decode prog_17_method_3_code 7 = .ok (.checkcast 24, 3) := by decide +kernel
theorem own_d5_10 : decode prog_17_method_3_code 10 = .ok (.astore 5, 2) := by decide +kernel
theorem own_d5_12 : decode prog_17_method_3_code 12 = .ok (.aload 5, 2) := by decide +kernel
theorem own_d5_14 : decode prog_17_method_3_code 14 = .ok (.ifnull 13, 3) := by decide +kernel
theorem own_d5_27 : decode prog_17_method_3_code 27 = .ok (.aload_n 0, 1) := by decide +kernel
theorem own_d5_28 : decode prog_17_method_3_code 28 = .ok (.getfield 10, 3) := by decide +kernel
theorem own_d5_31 : decode prog_17_method_3_code 31 = .ok (.new 24, 3) := by decide +kernel
theorem own_d5_34 : decode prog_17_method_3_code 34 = .ok (.dup, 1) := by decide +kernel
theorem own_d5_35 : decode prog_17_method_3_code 35 = .ok (.lload_n 1, 1) := by decide +kernel
theorem own_d5_36 : decode prog_17_method_3_code 36 = .ok (.lload_n 3, 1) := by decide +kernel
theorem own_d5_37 : decode prog_17_method_3_code 37 = .ok (.invokespecial 29, 3) := by decide +kernel
theorem own_d5_40 : decode prog_17_method_3_code 40 = .ok (.invokevirtual 32, 3) := by decide +kernel
theorem own_d5_43 : decode prog_17_method_3_code 43 = .ok (.pop, 1) := by decide +kernel
theorem own_d5_44 : decode prog_17_method_3_code 44 = .ok (.return_, 1) := by decide +kernel
theorem own_ef_own_rm5_0 (m : MethodId) (x0 : Addr) (x1 : Int64) : entryFrame m #[(.ref x0), (.long x1), (.long (0 : Int64))] 6 = mkF m 0 #[.val (.ref x0), .val (.long x1), .second, .val (.long (0 : Int64)), .second, .unset] [] := by first | (simp [entryFrame, mkF, argsToLocals, Value.category]; done) | rfl
def own_Q5_0 (Z : State) (a_1 : Addr) (q_2 : Int64) (q : Addr) (ar : Addr) (g : Nat → Value) (h0 : Heap) (n0 : Nat) (v : Option Value) (h : Heap) (L : List Loc) : Prop := ∃ (x : Addr), v = none ∧ Fr n0 L ∧ Keep h0 h [q, ar] ∧ Exa Z h q "java/util/ArrayDeque" ∧ Fld Z h q "java/util/ArrayDeque" "elements" "[Ljava/lang/Object;" (.ref ar) ∧ Fld Z h q "java/util/ArrayDeque" "head" "I" (.int (0 : Int32)) ∧ Fld Z h q "java/util/ArrayDeque" "tail" "I" (.int (1 : Int32)) ∧ own_AV Z h ar (.object "java/lang/Object") (17 : Int32) (own_upd g 0 (.ref x)) ∧ Exa Z h x "com/example/fencepost/fencepost/connector/SlotConfirmation$Transaction" ∧ Fld Z h x "com/example/fencepost/fencepost/connector/SlotConfirmation$Transaction" "commit" "J" (.long q_2) ∧ Fld Z h x "com/example/fencepost/fencepost/connector/SlotConfirmation$Transaction" "stored" "J" (.long (0 : Int64)) ∧ Fld Z h x "com/example/fencepost/fencepost/connector/SlotConfirmation$Transaction" "changes" "J" (.long (-1 : Int64)) ∧ (h0.size ≤ x)
set_option maxRecDepth 65536 in
set_option maxHeartbeats 40000000 in
theorem own_rm5_0 (l : Launch) (Z : State) (a0 : Array Value) (hw : ∀ d ∈ tables_1, d.before a0 Z = true) (ws : List Jvm.Cond) (a_1 : Addr) (q_2 : Int64) (q : Addr) (ar : Addr) (g : Nat → Value) (h0 : Heap) (n0 : Nat) (Z0 : n0 ≤ h0.size) (pr_E_a_1 : Exa Z h0 a_1 "com/example/fencepost/fencepost/connector/SlotConfirmation") (pr_F_a_1_unstored : Fld Z h0 a_1 "com/example/fencepost/fencepost/connector/SlotConfirmation" "unstored" "Ljava/util/ArrayDeque;" (.ref q)) (pr_E_q : Exa Z h0 q "java/util/ArrayDeque") (pr_F_q_elements : Fld Z h0 q "java/util/ArrayDeque" "elements" "[Ljava/lang/Object;" (.ref ar)) (pr_F_q_head : Fld Z h0 q "java/util/ArrayDeque" "head" "I" (.int (0 : Int32))) (pr_F_q_tail : Fld Z h0 q "java/util/ArrayDeque" "tail" "I" (.int (0 : Int32))) (pr_A_ar : own_AV Z h0 ar (.object "java/lang/Object") (17 : Int32) g) (pr_O_ar : own_OA Z h0 ar "java/lang/Object") (hg16 : g 16 = .null) (ho_ : own_lts [a_1, q, ar]) (gw_q : n0 ≤ q) (gw_ar : n0 ≤ ar) :
    MetFree l (⟨"com/example/fencepost/fencepost/connector/SlotConfirmation", "began", "(JJ)V"⟩ : MethodName) (head1 (Jvm.Cond.code (⟨"com/example/fencepost/fencepost/connector/SlotConfirmation", "began", "(JJ)V"⟩ : MethodName) prog_17_method_3_code 6 none :: ws) ({ frames := 3, cells := 1, slots := 3, locals := 42 } : Room)) (fun a U => a = #[(.ref a_1), (.long q_2), (.long (0 : Int64))] ∧ Z.Warmed39 U.vm ∧ U.heap = h0) (fun _ _ _ _ _ => True) (fun _ U o U' => ∃ v L, o = .returned v ∧ own_Q5_0 Z a_1 q_2 q ar g h0 n0 v U'.heap L ∧ FrameEnd U o U' L ({ frames := 3, cells := 1, slots := 3, locals := 42 } : Room).cells ({ frames := 3, cells := 1, slots := 3, locals := 42 } : Room).slots) := by
  refine MetFree.of_bodySF (plainFor_of_name own_pn2) hisR ?_
  intro p e s m args below meth c s₁ Bd hml0 hP hK
  obtain ⟨rfl, hZ, hh⟩ := hP
  have hx := Bd.exec
  have hby := Bd.bytes
  have hml : c.maxLocals = 6 := hml0
  have hown : s.vm.findClass "com/example/fencepost/fencepost/connector/SlotConfirmation" = some m.cls := findClass_of_methodNamed Bd.named
  have hnm := (name_of_methodNamed Bd.named Bd.method).1
  have X0 : Stand p l e ({ frames := 3, cells := 1, slots := 3, locals := 42 } : Room) s m #[(.ref a_1), (.long q_2), (.long (0 : Int64))] below meth c s₁ [] 0 0 := Stand.of_body Bd
  have e0 : s₁.heap = h0 := by rw [← hh, Bd.state]; rfl
  have N0 := Fr.nil n0
  have z0 : n0 ≤ h0.size := Z0
  have z1 := own_lt pr_E_a_1.lt
  have z2 := own_lt pr_F_a_1_unstored.lt
  have z3 := own_lt pr_E_q.lt
  have z4 := own_lt pr_F_q_elements.lt
  have z5 := own_lt pr_F_q_head.lt
  have z6 := own_lt pr_F_q_tail.lt
  have z7 := own_lt pr_A_ar.lt
  have ho8 := ho_
  simp only [own_lts, and_true] at ho8
  have K0 : Keep h0 h0 [q, ar] := Keep.refl h0 _
  show own_Go p.tables e below (fun t o => t.status = .running ∧ Ended t below o ∧ ∃ v L, o = .returned v ∧ own_Q5_0 Z a_1 q_2 q ar g h0 n0 v t.heap L ∧ FrameEnd s o t L ({ frames := 3, cells := 1, slots := 3, locals := 42 } : Room).cells ({ frames := 3, cells := 1, slots := 3, locals := 42 } : Room).slots) s₁ (entryFrame m #[(.ref a_1), (.long q_2), (.long (0 : Int64))] 6)
  rw [own_ef_own_rm5_0 m a_1 q_2]
  show own_Go _ _ _ _ s₁ (mkF m 0 #[.val (.ref a_1), .val (.long q_2), .second, .val (.long (0 : Int64)), .second, .unset] [])
  refine own_go (fun _ k => XS.aloadN X0.here hx rfl (hb hby own_d5_0) rfl rfl k) ?_
  show own_Go _ _ _ _ s₁ (mkF m 1 #[.val (.ref a_1), .val (.long q_2), .second, .val (.long (0 : Int64)), .second, .unset] [(.ref a_1)])
  obtain ⟨T9, X9, e9, st9⟩ := getF X0 hx hZ hown (host := "") (Or.inl (hw _ (List.mem_of_getElem? (i := 26) rfl))) Via.refl e0 pr_F_a_1_unstored (g := (mkF m 1 #[.val (.ref a_1), .val (.long q_2), .second, .val (.long (0 : Int64)), .second, .unset] [(.ref a_1)])) rfl rfl (hb hby own_d5_1)
  refine own_go (fun _ k => st9 _ k) ?_
  show own_Go _ _ _ _ T9 (mkF m 4 #[.val (.ref a_1), .val (.long q_2), .second, .val (.long (0 : Int64)), .second, .unset] [(.ref q)])
  obtain ⟨cq10, kq10, q10a, q10b, q10c⟩ := isOf hZ e9 pr_E_q
  obtain ⟨_, _, ⟨T10, L10, k10, n10⟩, -, X10, ⟨Lc10, hQ10, l10, y10, z10⟩, st10⟩ := X9.virtualBack hx (y := (⟨"java/util/ArrayDeque", "peekLast", "()Ljava/lang/Object;"⟩ : MethodName)) (z := (⟨"java/util/ArrayDeque", "peekLast", "()Ljava/lang/Object;"⟩ : MethodName)) hown (mvT hZ (hw _ (List.mem_of_getElem? (i := 33) rfl))) (mvT hZ (hw _ (List.mem_of_getElem? (i := 34) rfl))) (notFace_of_selects (args := #[]) (mvT hZ (hw _ (List.mem_of_getElem? (i := 36) rfl)))) (mvT hZ (hw _ (List.mem_of_getElem? (i := 36) rfl))) (mvT hZ (hw _ (List.mem_of_getElem? (i := 35) rfl))) (by decide) (backOf (W := 0) (own_rm6_0 l Z a0 hw [] q ar g h0 n0 (by omega) pr_F_q_elements pr_F_q_tail pr_A_ar hg16) hZ (hw _ (List.mem_of_getElem? (i := 37) rfl)) (hw _ (List.mem_of_getElem? (i := 11) rfl)) (by decide) (by decide)) q10a q10c (g := (mkF m 4 #[.val (.ref a_1), .val (.long q_2), .second, .val (.long (0 : Int64)), .second, .unset] [(.ref q)])) rfl (by rw [hml]; rfl) (Steps.refl _) (argsL := []) (rest := []) (lenOf own_pd3 rfl) rfl (by show 2 * 0 + _ ≤ _; exact Nat.le_of_eq rfl) (hb hby own_d5_4) (fun _ _ => ⟨rfl, e9, (by decide : 0 + 0 ≤ _), (by decide : 0 + 0 ≤ _)⟩)
  dsimp only [Pt.U, Pt.locs, Pt.cells, Pt.slots] at X10 l10 y10 z10 st10 hQ10
  have y10 : k10 = 0 := y10
  have z10 : n10 = 0 := z10
  obtain ⟨rfl, N10q, e10⟩ := hQ10
  have N10 : Fr n0 L10 := by rw [l10]; exact Fr.app N0 N10q
  refine own_go (fun _ k => st10.trans k) ?_
  show own_Go _ _ _ _ T10 (mkF m 7 #[.val (.ref a_1), .val (.long q_2), .second, .val (.long (0 : Int64)), .second, .unset] [.null])
  refine own_go (fun _ k => X10.checkcastNull hx (g := (mkF m 7 #[.val (.ref a_1), .val (.long q_2), .second, .val (.long (0 : Int64)), .second, .unset] [.null])) rfl rfl (hb hby own_d5_7) _ k) ?_
  show own_Go _ _ _ _ T10 (mkF m 10 #[.val (.ref a_1), .val (.long q_2), .second, .val (.long (0 : Int64)), .second, .unset] [.null])
  refine own_go (fun _ k => XS.astore X10.here hx rfl (hb hby own_d5_10) rfl rfl (l' := #[.val (.ref a_1), .val (.long q_2), .second, .val (.long (0 : Int64)), .second, .val .null]) rfl k) ?_
  show own_Go _ _ _ _ T10 (mkF m 12 #[.val (.ref a_1), .val (.long q_2), .second, .val (.long (0 : Int64)), .second, .val .null] [])
  refine own_go (fun _ k => XS.aload X10.here hx rfl (hb hby own_d5_12) rfl rfl k) ?_
  show own_Go _ _ _ _ T10 (mkF m 14 #[.val (.ref a_1), .val (.long q_2), .second, .val (.long (0 : Int64)), .second, .val .null] [.null])
  refine own_go (fun _ k => XS.ifnullYes X10.here hx rfl (pc0 := 14) (pc' := 27) rfl (hb hby own_d5_14) rfl (by decide) (by decide) k) ?_
  show own_Go _ _ _ _ T10 (mkF m 27 #[.val (.ref a_1), .val (.long q_2), .second, .val (.long (0 : Int64)), .second, .val .null] [])
  refine own_go (fun _ k => XS.aloadN X10.here hx rfl (hb hby own_d5_27) rfl rfl k) ?_
  show own_Go _ _ _ _ T10 (mkF m 28 #[.val (.ref a_1), .val (.long q_2), .second, .val (.long (0 : Int64)), .second, .val .null] [(.ref a_1)])
  obtain ⟨T11, X11, e11, st11⟩ := getF X10 hx hZ hown (host := "") (Or.inl (hw _ (List.mem_of_getElem? (i := 26) rfl))) Via.refl e10 pr_F_a_1_unstored (g := (mkF m 28 #[.val (.ref a_1), .val (.long q_2), .second, .val (.long (0 : Int64)), .second, .val .null] [(.ref a_1)])) rfl rfl (hb hby own_d5_28)
  refine own_go (fun _ k => st11 _ k) ?_
  show own_Go _ _ _ _ T11 (mkF m 31 #[.val (.ref a_1), .val (.long q_2), .second, .val (.long (0 : Int64)), .second, .val .null] [(.ref q)])
  obtain ⟨T12, h12, X12, e12, E12, A12, D12, Y12, st12⟩ := newO X11 hx hZ hown (hw _ (List.mem_of_getElem? (i := 46) rfl)) (hw _ (List.mem_of_getElem? (i := 47) rfl)) (hw _ (List.mem_of_getElem? (i := 48) rfl)) e11 (g := (mkF m 31 #[.val (.ref a_1), .val (.long q_2), .second, .val (.long (0 : Int64)), .second, .val .null] [(.ref q)])) rfl (hb hby own_d5_31) (by rw [y10]; decide) (by rw [z10]; decide)
  obtain ⟨b12, g12⟩ : ∃ z, z = h0.size := ⟨_, rfl⟩
  rw [← g12] at A12 D12 Y12 st12
  have z13 := E12.1
  have lt_b12 := own_lt A12.lt
  have K12 : Keep h0 h12 [q, ar] := K0.ext E12
  have F_changes_b12 : Fld Z h12 b12 "com/example/fencepost/fencepost/connector/SlotConfirmation$Transaction" "changes" "J" (.long (0 : Int64)) := D12 (Or.inl (hw _ (List.mem_of_getElem? (i := 55) rfl))) (ty := .long) (by decide)
  have F_commit_b12 : Fld Z h12 b12 "com/example/fencepost/fencepost/connector/SlotConfirmation$Transaction" "commit" "J" (.long (0 : Int64)) := D12 (Or.inr (hw _ (List.mem_of_getElem? (i := 57) rfl))) (ty := .long) (by decide)
  have F_stored_b12 : Fld Z h12 b12 "com/example/fencepost/fencepost/connector/SlotConfirmation$Transaction" "stored" "J" (.long (0 : Int64)) := D12 (Or.inl (hw _ (List.mem_of_getElem? (i := 59) rfl))) (ty := .long) (by decide)
  refine own_go (fun _ k => st12 _ k) ?_
  show own_Go _ _ _ _ T12 (mkF m 34 #[.val (.ref a_1), .val (.long q_2), .second, .val (.long (0 : Int64)), .second, .val .null] [(.ref b12), (.ref q)])
  refine own_go (fun _ k => XS.dup X12.here hx rfl (hb hby own_d5_34) rfl rfl k) ?_
  show own_Go _ _ _ _ T12 (mkF m 35 #[.val (.ref a_1), .val (.long q_2), .second, .val (.long (0 : Int64)), .second, .val .null] [(.ref b12), (.ref b12), (.ref q)])
  refine own_go (fun _ k => XS.lloadN X12.here hx rfl (hb hby own_d5_35) rfl k) ?_
  show own_Go _ _ _ _ T12 (mkF m 36 #[.val (.ref a_1), .val (.long q_2), .second, .val (.long (0 : Int64)), .second, .val .null] [(.long q_2), (.ref b12), (.ref b12), (.ref q)])
  refine own_go (fun _ k => XS.lloadN X12.here hx rfl (hb hby own_d5_36) rfl k) ?_
  show own_Go _ _ _ _ T12 (mkF m 37 #[.val (.ref a_1), .val (.long q_2), .second, .val (.long (0 : Int64)), .second, .val .null] [(.long (0 : Int64)), (.long q_2), (.ref b12), (.ref b12), (.ref q)])
  obtain ⟨_, _, ⟨T14, L14, k14, n14⟩, -, X14, ⟨Lc14, hQ14, l14, y14, z14⟩, st14⟩ := X12.specialBack hx (y := (⟨"com/example/fencepost/fencepost/connector/SlotConfirmation$Transaction", "<init>", "(JJ)V"⟩ : MethodName)) rfl hown (mvT hZ (hw _ (List.mem_of_getElem? (i := 49) rfl))) (mvT hZ (hw _ (List.mem_of_getElem? (i := 50) rfl))) (mvT hZ (hw _ (List.mem_of_getElem? (i := 51) rfl))) (by decide) (backOf (W := 2) (own_rm9 l Z a0 hw [] b12 q_2 (0 : Int64) (0 : Int64) (0 : Int64) (0 : Int64) h12 n0 (by omega) A12 F_changes_b12 F_commit_b12 F_stored_b12 (by omega)) hZ (hw _ (List.mem_of_getElem? (i := 51) rfl)) (hw _ (List.mem_of_getElem? (i := 48) rfl)) (by decide) (by decide)) (g := (mkF m 37 #[.val (.ref a_1), .val (.long q_2), .second, .val (.long (0 : Int64)), .second, .val .null] [(.long (0 : Int64)), (.long q_2), (.ref b12), (.ref b12), (.ref q)])) rfl (by rw [hml]; rfl) (Steps.refl _) (a := b12) (argsL := [(.long q_2), (.long (0 : Int64))]) (rest := [(.ref b12), (.ref q)]) (lenOf own_pd5 rfl) rfl (by show 2 * 0 + _ ≤ _; exact Nat.le_of_eq rfl) (hb hby own_d5_37) (fun _ _ => ⟨rfl, e12, (by show k10 + 1 + _ ≤ _; rw [y10]; decide), (by show n10 + 3 + _ ≤ _; rw [z10]; decide)⟩)
  dsimp only [Pt.U, Pt.locs, Pt.cells, Pt.slots] at X14 l14 y14 z14 st14 hQ14
  have y14 : k14 = 1 := own_addeq y14 (congrArg (fun q => q + 1) y10) rfl
  have z14 : n14 = 3 := own_addeq z14 (congrArg (fun q => q + 3) z10) rfl
  obtain ⟨rfl, N14q, K14q, f15, f16, f17, f18⟩ := hQ14
  have N14 : Fr n0 L14 := by rw [l14]; exact Fr.app N10 N14q
  have z19 := K14q.1
  have K14 : Keep h0 T14.heap [q, ar] := K12.trans K14q (allS (Or.inr (by omega)) all0)
  have z20 := own_lt f15.lt
  have z21 := own_lt f16.lt
  have z22 := own_lt f17.lt
  have z23 := own_lt f18.lt
  refine own_go (fun _ k => st14.trans k) ?_
  show own_Go _ _ _ _ T14 (mkF m 40 #[.val (.ref a_1), .val (.long q_2), .second, .val (.long (0 : Int64)), .second, .val .null] [(.ref b12), (.ref q)])
  have f24 : Exa Z T14.heap q "java/util/ArrayDeque" := ((pr_E_q.ext E12).keep K14q)
  have f25 : Fld Z T14.heap q "java/util/ArrayDeque" "elements" "[Ljava/lang/Object;" (.ref ar) := ((pr_F_q_elements.ext E12).keep K14q (ninS (own_ne (by omega)) nin0))
  have f26 : Fld Z T14.heap q "java/util/ArrayDeque" "head" "I" (.int (0 : Int32)) := ((pr_F_q_head.ext E12).keep K14q (ninS (own_ne (by omega)) nin0))
  have f27 : Fld Z T14.heap q "java/util/ArrayDeque" "tail" "I" (.int (0 : Int32)) := ((pr_F_q_tail.ext E12).keep K14q (ninS (own_ne (by omega)) nin0))
  have f28 : own_AV Z T14.heap ar (.object "java/lang/Object") (17 : Int32) g := ((pr_A_ar.ext E12).keep K14q (ninS (own_ne (by omega)) nin0))
  have f29 : own_OA Z T14.heap ar "java/lang/Object" := ((pr_O_ar.ext E12).keep K14q)
  obtain ⟨cq30, kq30, q30a, q30b, q30c⟩ := isOf hZ rfl f24
  obtain ⟨_, _, ⟨T30, L30, k30, n30⟩, -, X30, ⟨Lc30, hQ30, l30, y30, z30⟩, st30⟩ := X14.virtualBack hx (y := (⟨"java/util/ArrayDeque", "add", "(Ljava/lang/Object;)Z"⟩ : MethodName)) (z := (⟨"java/util/ArrayDeque", "add", "(Ljava/lang/Object;)Z"⟩ : MethodName)) hown (mvT hZ (hw _ (List.mem_of_getElem? (i := 60) rfl))) (mvT hZ (hw _ (List.mem_of_getElem? (i := 61) rfl))) (notFace_of_selects (args := #[]) (mvT hZ (hw _ (List.mem_of_getElem? (i := 63) rfl)))) (mvT hZ (hw _ (List.mem_of_getElem? (i := 63) rfl))) (mvT hZ (hw _ (List.mem_of_getElem? (i := 62) rfl))) (by decide) (backOf (W := 0) (own_rm10_0 l Z a0 hw [] q b12 ar g T14.heap n0 (by omega) f24 f25 f26 f27 f28 f29 f15 (by simp only [own_lts, and_true]; omega) (by omega) (by omega)) hZ (hw _ (List.mem_of_getElem? (i := 64) rfl)) (hw _ (List.mem_of_getElem? (i := 11) rfl)) (by decide) (by decide)) q30a q30c (g := (mkF m 40 #[.val (.ref a_1), .val (.long q_2), .second, .val (.long (0 : Int64)), .second, .val .null] [(.ref b12), (.ref q)])) rfl (by rw [hml]; rfl) (Steps.refl _) (argsL := [(.ref b12)]) (rest := []) (lenOf own_pd6 rfl) rfl (by show 2 * 0 + _ ≤ _; exact Nat.le_of_eq rfl) (hb hby own_d5_40) (fun _ _ => ⟨rfl, rfl, (by show k14 + _ ≤ _; rw [y14]; decide), (by show n14 + _ ≤ _; rw [z14]; decide)⟩)
  dsimp only [Pt.U, Pt.locs, Pt.cells, Pt.slots] at X30 l30 y30 z30 st30 hQ30
  have y30 : k30 = 1 := own_addeq y30 (congrArg (fun q => q) y14) rfl
  have z30 : n30 = 3 := own_addeq z30 (congrArg (fun q => q) z14) rfl
  obtain ⟨rfl, N30q, K30q, f31, f32, f33, f34, f35⟩ := hQ30
  have N30 : Fr n0 L30 := by rw [l30]; exact Fr.app N14 N30q
  have z36 := K30q.1
  have K30 : Keep h0 T30.heap [q, ar] := K14.trans K30q (allS (Or.inl (List.mem_of_getElem? (i := 0) rfl)) (allS (Or.inl (List.mem_of_getElem? (i := 1) rfl)) all0))
  have z37 := own_lt f31.lt
  have z38 := own_lt f32.lt
  have z39 := own_lt f33.lt
  have z40 := own_lt f34.lt
  have z41 := own_lt f35.lt
  refine own_go (fun _ k => st30.trans k) ?_
  show own_Go _ _ _ _ T30 (mkF m 43 #[.val (.ref a_1), .val (.long q_2), .second, .val (.long (0 : Int64)), .second, .val .null] [(.int (1 : Int32))])
  refine own_go (fun _ k => XS.pop X30.here hx rfl (hb hby own_d5_43) rfl rfl k) ?_
  show own_Go _ _ _ _ T30 (mkF m 44 #[.val (.ref a_1), .val (.long q_2), .second, .val (.long (0 : Int64)), .second, .val .null] [])
  obtain ⟨fs, hr, hrun, hended, hW, hsame⟩ := X30.leave (v := none) (fun _ => rfl)
  refine ⟨_, _, X30.returnOut hx Bd.returns (hb hby own_d5_44) hr, hrun, hended, _, _, rfl, ?_, ⟨_, rfl⟩, hW, hsame.mono (by rw [y30]; decide) (by rw [z30]; decide)⟩
  have f43 : Exa Z T30.heap b12 "com/example/fencepost/fencepost/connector/SlotConfirmation$Transaction" := (f15.keep K30q)
  have f44 : Fld Z T30.heap b12 "com/example/fencepost/fencepost/connector/SlotConfirmation$Transaction" "commit" "J" (.long q_2) := (f17.keep K30q (ninS (own_ne (by omega)) (ninS (own_ne (by omega)) nin0)))
  have f45 : Fld Z T30.heap b12 "com/example/fencepost/fencepost/connector/SlotConfirmation$Transaction" "stored" "J" (.long (0 : Int64)) := (f18.keep K30q (ninS (own_ne (by omega)) (ninS (own_ne (by omega)) nin0)))
  have f46 : Fld Z T30.heap b12 "com/example/fencepost/fencepost/connector/SlotConfirmation$Transaction" "changes" "J" (.long (-1 : Int64)) := (f16.keep K30q (ninS (own_ne (by omega)) (ninS (own_ne (by omega)) nin0)))
  exact ⟨b12, rfl, N30, K30, f31, f32, f33, f34, f35, f43, f44, f45, f46, (by omega)⟩
theorem own_ef_own_rm5_1 (m : MethodId) (x0 : Addr) (x1 : Int64) : entryFrame m #[(.ref x0), (.long x1), (.long (0 : Int64))] 6 = mkF m 0 #[.val (.ref x0), .val (.long x1), .second, .val (.long (0 : Int64)), .second, .unset] [] := by first | (simp [entryFrame, mkF, argsToLocals, Value.category]; done) | rfl
def own_Q5_1 (Z : State) (a_1 : Addr) (q_2 : Int64) (q : Addr) (ar : Addr) (g : Nat → Value) (h0 : Heap) (n0 : Nat) (v : Option Value) (h : Heap) (L : List Loc) : Prop := ∃ (x : Addr), v = none ∧ Fr n0 L ∧ Keep h0 h [q, ar] ∧ Exa Z h q "java/util/ArrayDeque" ∧ Fld Z h q "java/util/ArrayDeque" "elements" "[Ljava/lang/Object;" (.ref ar) ∧ Fld Z h q "java/util/ArrayDeque" "head" "I" (.int (1 : Int32)) ∧ Fld Z h q "java/util/ArrayDeque" "tail" "I" (.int (2 : Int32)) ∧ own_AV Z h ar (.object "java/lang/Object") (17 : Int32) (own_upd g 1 (.ref x)) ∧ Exa Z h x "com/example/fencepost/fencepost/connector/SlotConfirmation$Transaction" ∧ Fld Z h x "com/example/fencepost/fencepost/connector/SlotConfirmation$Transaction" "commit" "J" (.long q_2) ∧ Fld Z h x "com/example/fencepost/fencepost/connector/SlotConfirmation$Transaction" "stored" "J" (.long (0 : Int64)) ∧ Fld Z h x "com/example/fencepost/fencepost/connector/SlotConfirmation$Transaction" "changes" "J" (.long (-1 : Int64)) ∧ (h0.size ≤ x)
set_option maxRecDepth 65536 in
set_option maxHeartbeats 40000000 in
theorem own_rm5_1 (l : Launch) (Z : State) (a0 : Array Value) (hw : ∀ d ∈ tables_1, d.before a0 Z = true) (ws : List Jvm.Cond) (a_1 : Addr) (q_2 : Int64) (q : Addr) (ar : Addr) (g : Nat → Value) (h0 : Heap) (n0 : Nat) (Z0 : n0 ≤ h0.size) (pr_E_a_1 : Exa Z h0 a_1 "com/example/fencepost/fencepost/connector/SlotConfirmation") (pr_F_a_1_unstored : Fld Z h0 a_1 "com/example/fencepost/fencepost/connector/SlotConfirmation" "unstored" "Ljava/util/ArrayDeque;" (.ref q)) (pr_E_q : Exa Z h0 q "java/util/ArrayDeque") (pr_F_q_elements : Fld Z h0 q "java/util/ArrayDeque" "elements" "[Ljava/lang/Object;" (.ref ar)) (pr_F_q_head : Fld Z h0 q "java/util/ArrayDeque" "head" "I" (.int (1 : Int32))) (pr_F_q_tail : Fld Z h0 q "java/util/ArrayDeque" "tail" "I" (.int (1 : Int32))) (pr_A_ar : own_AV Z h0 ar (.object "java/lang/Object") (17 : Int32) g) (pr_O_ar : own_OA Z h0 ar "java/lang/Object") (hg0 : g 0 = .null) (ho_ : own_lts [a_1, q, ar]) (gw_q : n0 ≤ q) (gw_ar : n0 ≤ ar) :
    MetFree l (⟨"com/example/fencepost/fencepost/connector/SlotConfirmation", "began", "(JJ)V"⟩ : MethodName) (head1 (Jvm.Cond.code (⟨"com/example/fencepost/fencepost/connector/SlotConfirmation", "began", "(JJ)V"⟩ : MethodName) prog_17_method_3_code 6 none :: ws) ({ frames := 3, cells := 1, slots := 3, locals := 42 } : Room)) (fun a U => a = #[(.ref a_1), (.long q_2), (.long (0 : Int64))] ∧ Z.Warmed39 U.vm ∧ U.heap = h0) (fun _ _ _ _ _ => True) (fun _ U o U' => ∃ v L, o = .returned v ∧ own_Q5_1 Z a_1 q_2 q ar g h0 n0 v U'.heap L ∧ FrameEnd U o U' L ({ frames := 3, cells := 1, slots := 3, locals := 42 } : Room).cells ({ frames := 3, cells := 1, slots := 3, locals := 42 } : Room).slots) := by
  refine MetFree.of_bodySF (plainFor_of_name own_pn2) hisR ?_
  intro p e s m args below meth c s₁ Bd hml0 hP hK
  obtain ⟨rfl, hZ, hh⟩ := hP
  have hx := Bd.exec
  have hby := Bd.bytes
  have hml : c.maxLocals = 6 := hml0
  have hown : s.vm.findClass "com/example/fencepost/fencepost/connector/SlotConfirmation" = some m.cls := findClass_of_methodNamed Bd.named
  have hnm := (name_of_methodNamed Bd.named Bd.method).1
  have X0 : Stand p l e ({ frames := 3, cells := 1, slots := 3, locals := 42 } : Room) s m #[(.ref a_1), (.long q_2), (.long (0 : Int64))] below meth c s₁ [] 0 0 := Stand.of_body Bd
  have e0 : s₁.heap = h0 := by rw [← hh, Bd.state]; rfl
  have N0 := Fr.nil n0
  have z0 : n0 ≤ h0.size := Z0
  have z1 := own_lt pr_E_a_1.lt
  have z2 := own_lt pr_F_a_1_unstored.lt
  have z3 := own_lt pr_E_q.lt
  have z4 := own_lt pr_F_q_elements.lt
  have z5 := own_lt pr_F_q_head.lt
  have z6 := own_lt pr_F_q_tail.lt
  have z7 := own_lt pr_A_ar.lt
  have ho8 := ho_
  simp only [own_lts, and_true] at ho8
  have K0 : Keep h0 h0 [q, ar] := Keep.refl h0 _
  show own_Go p.tables e below (fun t o => t.status = .running ∧ Ended t below o ∧ ∃ v L, o = .returned v ∧ own_Q5_1 Z a_1 q_2 q ar g h0 n0 v t.heap L ∧ FrameEnd s o t L ({ frames := 3, cells := 1, slots := 3, locals := 42 } : Room).cells ({ frames := 3, cells := 1, slots := 3, locals := 42 } : Room).slots) s₁ (entryFrame m #[(.ref a_1), (.long q_2), (.long (0 : Int64))] 6)
  rw [own_ef_own_rm5_1 m a_1 q_2]
  show own_Go _ _ _ _ s₁ (mkF m 0 #[.val (.ref a_1), .val (.long q_2), .second, .val (.long (0 : Int64)), .second, .unset] [])
  refine own_go (fun _ k => XS.aloadN X0.here hx rfl (hb hby own_d5_0) rfl rfl k) ?_
  show own_Go _ _ _ _ s₁ (mkF m 1 #[.val (.ref a_1), .val (.long q_2), .second, .val (.long (0 : Int64)), .second, .unset] [(.ref a_1)])
  obtain ⟨T9, X9, e9, st9⟩ := getF X0 hx hZ hown (host := "") (Or.inl (hw _ (List.mem_of_getElem? (i := 26) rfl))) Via.refl e0 pr_F_a_1_unstored (g := (mkF m 1 #[.val (.ref a_1), .val (.long q_2), .second, .val (.long (0 : Int64)), .second, .unset] [(.ref a_1)])) rfl rfl (hb hby own_d5_1)
  refine own_go (fun _ k => st9 _ k) ?_
  show own_Go _ _ _ _ T9 (mkF m 4 #[.val (.ref a_1), .val (.long q_2), .second, .val (.long (0 : Int64)), .second, .unset] [(.ref q)])
  obtain ⟨cq10, kq10, q10a, q10b, q10c⟩ := isOf hZ e9 pr_E_q
  obtain ⟨_, _, ⟨T10, L10, k10, n10⟩, -, X10, ⟨Lc10, hQ10, l10, y10, z10⟩, st10⟩ := X9.virtualBack hx (y := (⟨"java/util/ArrayDeque", "peekLast", "()Ljava/lang/Object;"⟩ : MethodName)) (z := (⟨"java/util/ArrayDeque", "peekLast", "()Ljava/lang/Object;"⟩ : MethodName)) hown (mvT hZ (hw _ (List.mem_of_getElem? (i := 33) rfl))) (mvT hZ (hw _ (List.mem_of_getElem? (i := 34) rfl))) (notFace_of_selects (args := #[]) (mvT hZ (hw _ (List.mem_of_getElem? (i := 36) rfl)))) (mvT hZ (hw _ (List.mem_of_getElem? (i := 36) rfl))) (mvT hZ (hw _ (List.mem_of_getElem? (i := 35) rfl))) (by decide) (backOf (W := 0) (own_rm6_1 l Z a0 hw [] q ar g h0 n0 (by omega) pr_F_q_elements pr_F_q_tail pr_A_ar hg0) hZ (hw _ (List.mem_of_getElem? (i := 37) rfl)) (hw _ (List.mem_of_getElem? (i := 11) rfl)) (by decide) (by decide)) q10a q10c (g := (mkF m 4 #[.val (.ref a_1), .val (.long q_2), .second, .val (.long (0 : Int64)), .second, .unset] [(.ref q)])) rfl (by rw [hml]; rfl) (Steps.refl _) (argsL := []) (rest := []) (lenOf own_pd3 rfl) rfl (by show 2 * 0 + _ ≤ _; exact Nat.le_of_eq rfl) (hb hby own_d5_4) (fun _ _ => ⟨rfl, e9, (by decide : 0 + 0 ≤ _), (by decide : 0 + 0 ≤ _)⟩)
  dsimp only [Pt.U, Pt.locs, Pt.cells, Pt.slots] at X10 l10 y10 z10 st10 hQ10
  have y10 : k10 = 0 := y10
  have z10 : n10 = 0 := z10
  obtain ⟨rfl, N10q, e10⟩ := hQ10
  have N10 : Fr n0 L10 := by rw [l10]; exact Fr.app N0 N10q
  refine own_go (fun _ k => st10.trans k) ?_
  show own_Go _ _ _ _ T10 (mkF m 7 #[.val (.ref a_1), .val (.long q_2), .second, .val (.long (0 : Int64)), .second, .unset] [.null])
  refine own_go (fun _ k => X10.checkcastNull hx (g := (mkF m 7 #[.val (.ref a_1), .val (.long q_2), .second, .val (.long (0 : Int64)), .second, .unset] [.null])) rfl rfl (hb hby own_d5_7) _ k) ?_
  show own_Go _ _ _ _ T10 (mkF m 10 #[.val (.ref a_1), .val (.long q_2), .second, .val (.long (0 : Int64)), .second, .unset] [.null])
  refine own_go (fun _ k => XS.astore X10.here hx rfl (hb hby own_d5_10) rfl rfl (l' := #[.val (.ref a_1), .val (.long q_2), .second, .val (.long (0 : Int64)), .second, .val .null]) rfl k) ?_
  show own_Go _ _ _ _ T10 (mkF m 12 #[.val (.ref a_1), .val (.long q_2), .second, .val (.long (0 : Int64)), .second, .val .null] [])
  refine own_go (fun _ k => XS.aload X10.here hx rfl (hb hby own_d5_12) rfl rfl k) ?_
  show own_Go _ _ _ _ T10 (mkF m 14 #[.val (.ref a_1), .val (.long q_2), .second, .val (.long (0 : Int64)), .second, .val .null] [.null])
  refine own_go (fun _ k => XS.ifnullYes X10.here hx rfl (pc0 := 14) (pc' := 27) rfl (hb hby own_d5_14) rfl (by decide) (by decide) k) ?_
  show own_Go _ _ _ _ T10 (mkF m 27 #[.val (.ref a_1), .val (.long q_2), .second, .val (.long (0 : Int64)), .second, .val .null] [])
  refine own_go (fun _ k => XS.aloadN X10.here hx rfl (hb hby own_d5_27) rfl rfl k) ?_
  show own_Go _ _ _ _ T10 (mkF m 28 #[.val (.ref a_1), .val (.long q_2), .second, .val (.long (0 : Int64)), .second, .val .null] [(.ref a_1)])
  obtain ⟨T11, X11, e11, st11⟩ := getF X10 hx hZ hown (host := "") (Or.inl (hw _ (List.mem_of_getElem? (i := 26) rfl))) Via.refl e10 pr_F_a_1_unstored (g := (mkF m 28 #[.val (.ref a_1), .val (.long q_2), .second, .val (.long (0 : Int64)), .second, .val .null] [(.ref a_1)])) rfl rfl (hb hby own_d5_28)
  refine own_go (fun _ k => st11 _ k) ?_
  show own_Go _ _ _ _ T11 (mkF m 31 #[.val (.ref a_1), .val (.long q_2), .second, .val (.long (0 : Int64)), .second, .val .null] [(.ref q)])
  obtain ⟨T12, h12, X12, e12, E12, A12, D12, Y12, st12⟩ := newO X11 hx hZ hown (hw _ (List.mem_of_getElem? (i := 46) rfl)) (hw _ (List.mem_of_getElem? (i := 47) rfl)) (hw _ (List.mem_of_getElem? (i := 48) rfl)) e11 (g := (mkF m 31 #[.val (.ref a_1), .val (.long q_2), .second, .val (.long (0 : Int64)), .second, .val .null] [(.ref q)])) rfl (hb hby own_d5_31) (by rw [y10]; decide) (by rw [z10]; decide)
  obtain ⟨b12, g12⟩ : ∃ z, z = h0.size := ⟨_, rfl⟩
  rw [← g12] at A12 D12 Y12 st12
  have z13 := E12.1
  have lt_b12 := own_lt A12.lt
  have K12 : Keep h0 h12 [q, ar] := K0.ext E12
  have F_changes_b12 : Fld Z h12 b12 "com/example/fencepost/fencepost/connector/SlotConfirmation$Transaction" "changes" "J" (.long (0 : Int64)) := D12 (Or.inl (hw _ (List.mem_of_getElem? (i := 55) rfl))) (ty := .long) (by decide)
  have F_commit_b12 : Fld Z h12 b12 "com/example/fencepost/fencepost/connector/SlotConfirmation$Transaction" "commit" "J" (.long (0 : Int64)) := D12 (Or.inr (hw _ (List.mem_of_getElem? (i := 57) rfl))) (ty := .long) (by decide)
  have F_stored_b12 : Fld Z h12 b12 "com/example/fencepost/fencepost/connector/SlotConfirmation$Transaction" "stored" "J" (.long (0 : Int64)) := D12 (Or.inl (hw _ (List.mem_of_getElem? (i := 59) rfl))) (ty := .long) (by decide)
  refine own_go (fun _ k => st12 _ k) ?_
  show own_Go _ _ _ _ T12 (mkF m 34 #[.val (.ref a_1), .val (.long q_2), .second, .val (.long (0 : Int64)), .second, .val .null] [(.ref b12), (.ref q)])
  refine own_go (fun _ k => XS.dup X12.here hx rfl (hb hby own_d5_34) rfl rfl k) ?_
  show own_Go _ _ _ _ T12 (mkF m 35 #[.val (.ref a_1), .val (.long q_2), .second, .val (.long (0 : Int64)), .second, .val .null] [(.ref b12), (.ref b12), (.ref q)])
  refine own_go (fun _ k => XS.lloadN X12.here hx rfl (hb hby own_d5_35) rfl k) ?_
  show own_Go _ _ _ _ T12 (mkF m 36 #[.val (.ref a_1), .val (.long q_2), .second, .val (.long (0 : Int64)), .second, .val .null] [(.long q_2), (.ref b12), (.ref b12), (.ref q)])
  refine own_go (fun _ k => XS.lloadN X12.here hx rfl (hb hby own_d5_36) rfl k) ?_
  show own_Go _ _ _ _ T12 (mkF m 37 #[.val (.ref a_1), .val (.long q_2), .second, .val (.long (0 : Int64)), .second, .val .null] [(.long (0 : Int64)), (.long q_2), (.ref b12), (.ref b12), (.ref q)])
  obtain ⟨_, _, ⟨T14, L14, k14, n14⟩, -, X14, ⟨Lc14, hQ14, l14, y14, z14⟩, st14⟩ := X12.specialBack hx (y := (⟨"com/example/fencepost/fencepost/connector/SlotConfirmation$Transaction", "<init>", "(JJ)V"⟩ : MethodName)) rfl hown (mvT hZ (hw _ (List.mem_of_getElem? (i := 49) rfl))) (mvT hZ (hw _ (List.mem_of_getElem? (i := 50) rfl))) (mvT hZ (hw _ (List.mem_of_getElem? (i := 51) rfl))) (by decide) (backOf (W := 2) (own_rm9 l Z a0 hw [] b12 q_2 (0 : Int64) (0 : Int64) (0 : Int64) (0 : Int64) h12 n0 (by omega) A12 F_changes_b12 F_commit_b12 F_stored_b12 (by omega)) hZ (hw _ (List.mem_of_getElem? (i := 51) rfl)) (hw _ (List.mem_of_getElem? (i := 48) rfl)) (by decide) (by decide)) (g := (mkF m 37 #[.val (.ref a_1), .val (.long q_2), .second, .val (.long (0 : Int64)), .second, .val .null] [(.long (0 : Int64)), (.long q_2), (.ref b12), (.ref b12), (.ref q)])) rfl (by rw [hml]; rfl) (Steps.refl _) (a := b12) (argsL := [(.long q_2), (.long (0 : Int64))]) (rest := [(.ref b12), (.ref q)]) (lenOf own_pd5 rfl) rfl (by show 2 * 0 + _ ≤ _; exact Nat.le_of_eq rfl) (hb hby own_d5_37) (fun _ _ => ⟨rfl, e12, (by show k10 + 1 + _ ≤ _; rw [y10]; decide), (by show n10 + 3 + _ ≤ _; rw [z10]; decide)⟩)
  dsimp only [Pt.U, Pt.locs, Pt.cells, Pt.slots] at X14 l14 y14 z14 st14 hQ14
  have y14 : k14 = 1 := own_addeq y14 (congrArg (fun q => q + 1) y10) rfl
  have z14 : n14 = 3 := own_addeq z14 (congrArg (fun q => q + 3) z10) rfl
  obtain ⟨rfl, N14q, K14q, f15, f16, f17, f18⟩ := hQ14
  have N14 : Fr n0 L14 := by rw [l14]; exact Fr.app N10 N14q
  have z19 := K14q.1
  have K14 : Keep h0 T14.heap [q, ar] := K12.trans K14q (allS (Or.inr (by omega)) all0)
  have z20 := own_lt f15.lt
  have z21 := own_lt f16.lt
  have z22 := own_lt f17.lt
  have z23 := own_lt f18.lt
  refine own_go (fun _ k => st14.trans k) ?_
  show own_Go _ _ _ _ T14 (mkF m 40 #[.val (.ref a_1), .val (.long q_2), .second, .val (.long (0 : Int64)), .second, .val .null] [(.ref b12), (.ref q)])
  have f24 : Exa Z T14.heap q "java/util/ArrayDeque" := ((pr_E_q.ext E12).keep K14q)
  have f25 : Fld Z T14.heap q "java/util/ArrayDeque" "elements" "[Ljava/lang/Object;" (.ref ar) := ((pr_F_q_elements.ext E12).keep K14q (ninS (own_ne (by omega)) nin0))
  have f26 : Fld Z T14.heap q "java/util/ArrayDeque" "head" "I" (.int (1 : Int32)) := ((pr_F_q_head.ext E12).keep K14q (ninS (own_ne (by omega)) nin0))
  have f27 : Fld Z T14.heap q "java/util/ArrayDeque" "tail" "I" (.int (1 : Int32)) := ((pr_F_q_tail.ext E12).keep K14q (ninS (own_ne (by omega)) nin0))
  have f28 : own_AV Z T14.heap ar (.object "java/lang/Object") (17 : Int32) g := ((pr_A_ar.ext E12).keep K14q (ninS (own_ne (by omega)) nin0))
  have f29 : own_OA Z T14.heap ar "java/lang/Object" := ((pr_O_ar.ext E12).keep K14q)
  obtain ⟨cq30, kq30, q30a, q30b, q30c⟩ := isOf hZ rfl f24
  obtain ⟨_, _, ⟨T30, L30, k30, n30⟩, -, X30, ⟨Lc30, hQ30, l30, y30, z30⟩, st30⟩ := X14.virtualBack hx (y := (⟨"java/util/ArrayDeque", "add", "(Ljava/lang/Object;)Z"⟩ : MethodName)) (z := (⟨"java/util/ArrayDeque", "add", "(Ljava/lang/Object;)Z"⟩ : MethodName)) hown (mvT hZ (hw _ (List.mem_of_getElem? (i := 60) rfl))) (mvT hZ (hw _ (List.mem_of_getElem? (i := 61) rfl))) (notFace_of_selects (args := #[]) (mvT hZ (hw _ (List.mem_of_getElem? (i := 63) rfl)))) (mvT hZ (hw _ (List.mem_of_getElem? (i := 63) rfl))) (mvT hZ (hw _ (List.mem_of_getElem? (i := 62) rfl))) (by decide) (backOf (W := 0) (own_rm10_1 l Z a0 hw [] q b12 ar g T14.heap n0 (by omega) f24 f25 f26 f27 f28 f29 f15 (by simp only [own_lts, and_true]; omega) (by omega) (by omega)) hZ (hw _ (List.mem_of_getElem? (i := 64) rfl)) (hw _ (List.mem_of_getElem? (i := 11) rfl)) (by decide) (by decide)) q30a q30c (g := (mkF m 40 #[.val (.ref a_1), .val (.long q_2), .second, .val (.long (0 : Int64)), .second, .val .null] [(.ref b12), (.ref q)])) rfl (by rw [hml]; rfl) (Steps.refl _) (argsL := [(.ref b12)]) (rest := []) (lenOf own_pd6 rfl) rfl (by show 2 * 0 + _ ≤ _; exact Nat.le_of_eq rfl) (hb hby own_d5_40) (fun _ _ => ⟨rfl, rfl, (by show k14 + _ ≤ _; rw [y14]; decide), (by show n14 + _ ≤ _; rw [z14]; decide)⟩)
  dsimp only [Pt.U, Pt.locs, Pt.cells, Pt.slots] at X30 l30 y30 z30 st30 hQ30
  have y30 : k30 = 1 := own_addeq y30 (congrArg (fun q => q) y14) rfl
  have z30 : n30 = 3 := own_addeq z30 (congrArg (fun q => q) z14) rfl
  obtain ⟨rfl, N30q, K30q, f31, f32, f33, f34, f35⟩ := hQ30
  have N30 : Fr n0 L30 := by rw [l30]; exact Fr.app N14 N30q
  have z36 := K30q.1
  have K30 : Keep h0 T30.heap [q, ar] := K14.trans K30q (allS (Or.inl (List.mem_of_getElem? (i := 0) rfl)) (allS (Or.inl (List.mem_of_getElem? (i := 1) rfl)) all0))
  have z37 := own_lt f31.lt
  have z38 := own_lt f32.lt
  have z39 := own_lt f33.lt
  have z40 := own_lt f34.lt
  have z41 := own_lt f35.lt
  refine own_go (fun _ k => st30.trans k) ?_
  show own_Go _ _ _ _ T30 (mkF m 43 #[.val (.ref a_1), .val (.long q_2), .second, .val (.long (0 : Int64)), .second, .val .null] [(.int (1 : Int32))])
  refine own_go (fun _ k => XS.pop X30.here hx rfl (hb hby own_d5_43) rfl rfl k) ?_
  show own_Go _ _ _ _ T30 (mkF m 44 #[.val (.ref a_1), .val (.long q_2), .second, .val (.long (0 : Int64)), .second, .val .null] [])
  obtain ⟨fs, hr, hrun, hended, hW, hsame⟩ := X30.leave (v := none) (fun _ => rfl)
  refine ⟨_, _, X30.returnOut hx Bd.returns (hb hby own_d5_44) hr, hrun, hended, _, _, rfl, ?_, ⟨_, rfl⟩, hW, hsame.mono (by rw [y30]; decide) (by rw [z30]; decide)⟩
  have f43 : Exa Z T30.heap b12 "com/example/fencepost/fencepost/connector/SlotConfirmation$Transaction" := (f15.keep K30q)
  have f44 : Fld Z T30.heap b12 "com/example/fencepost/fencepost/connector/SlotConfirmation$Transaction" "commit" "J" (.long q_2) := (f17.keep K30q (ninS (own_ne (by omega)) (ninS (own_ne (by omega)) nin0)))
  have f45 : Fld Z T30.heap b12 "com/example/fencepost/fencepost/connector/SlotConfirmation$Transaction" "stored" "J" (.long (0 : Int64)) := (f18.keep K30q (ninS (own_ne (by omega)) (ninS (own_ne (by omega)) nin0)))
  have f46 : Fld Z T30.heap b12 "com/example/fencepost/fencepost/connector/SlotConfirmation$Transaction" "changes" "J" (.long (-1 : Int64)) := (f16.keep K30q (ninS (own_ne (by omega)) (ninS (own_ne (by omega)) nin0)))
  exact ⟨b12, rfl, N30, K30, f31, f32, f33, f34, f35, f43, f44, f45, f46, (by omega)⟩
theorem own_d15_0 : decode prog_17_method_8_code 0 = .ok (.aload_n 0, 1) := by decide +kernel
theorem own_d15_1 : decode prog_17_method_8_code 1 = .ok (.getfield 10, 3) := by decide +kernel
theorem own_d15_4 : decode prog_17_method_8_code 4 = .ok (.invokevirtual 36, 3) := by decide +kernel
theorem own_d15_7 : decode prog_17_method_8_code 7 = .ok (.ifCond .ne 78, 3) := by decide +kernel
theorem own_d15_10 : decode prog_17_method_8_code 10 = .ok (.aload_n 0, 1) := by decide +kernel
theorem own_d15_11 : decode prog_17_method_8_code 11 = .ok (.getfield 10, 3) := by decide +kernel
theorem own_d15_14 : decode prog_17_method_8_code 14 = .ok (.invokevirtual 52, 3) := by decide +kernel
theorem own_d15_17 : decode prog_17_method_8_code 17 = .ok (.checkcast 24, 3) := by decide +kernel
theorem own_d15_20 : decode prog_17_method_8_code 20 = .ok (.getfield 46, 3) := by decide +kernel
theorem own_d15_23 : decode prog_17_method_8_code 23 = .ok (.lconst 0, 1) := by decide +kernel
theorem own_d15_24 : decode prog_17_method_8_code 24 = .ok (.lcmp, 1) := by decide +kernel
theorem own_d15_25 : decode prog_17_method_8_code 25 = .ok (.ifCond .lt 60, 3) := by decide +kernel
theorem own_d15_28 : decode prog_17_method_8_code 28 = .ok (.aload_n 0, 1) := by decide +kernel
theorem own_d15_29 : decode prog_17_method_8_code 29 = .ok (.getfield 10, 3) := by decide +kernel
theorem own_d15_32 : decode prog_17_method_8_code 32 = .ok (.invokevirtual 52, 3) := by decide +kernel
theorem own_d15_35 : decode prog_17_method_8_code 35 = .ok (.checkcast 24, 3) := by decide +kernel
theorem own_d15_38 : decode prog_17_method_8_code 38 = .ok (.getfield 67, 3) := by decide +kernel
theorem own_d15_41 : decode prog_17_method_8_code 41 = .ok (.aload_n 0, 1) := by decide +kernel
theorem own_d15_42 : decode prog_17_method_8_code 42 = .ok (.getfield 10, 3) := by decide +kernel
theorem own_d15_45 : decode prog_17_method_8_code 45 = .ok (.invokevirtual 52, 3) := by decide +kernel
theorem own_d15_48 : decode prog_17_method_8_code 48 = .ok (.checkcast 24, 3) := by decide +kernel
theorem own_d15_51 : decode prog_17_method_8_code 51 = .ok (.getfield 46, 3) := by decide +kernel
theorem own_d15_54 : decode prog_17_method_8_code 54 = .ok (.lcmp, 1) := by decide +kernel
theorem own_d15_55 : decode prog_17_method_8_code 55 = .ok (.ifCond .lt 30, 3) := by decide +kernel
theorem own_d15_58 : decode prog_17_method_8_code 58 = .ok (.aload_n 0, 1) := by decide +kernel
theorem own_d15_59 : decode prog_17_method_8_code 59 = .ok (.aload_n 0, 1) := by decide +kernel
theorem own_d15_60 : decode prog_17_method_8_code 60 = .ok (.getfield 16, 3) := by decide +kernel
theorem own_d15_63 : decode prog_17_method_8_code 63 = .ok (.aload_n 0, 1) := by decide +kernel
theorem own_d15_64 : decode prog_17_method_8_code 64 = .ok (.getfield 10, 3) := by decide +kernel
theorem own_d15_67 : decode prog_17_method_8_code 67 = .ok (.invokevirtual 55, 3) := by decide +kernel
theorem own_d15_70 : decode prog_17_method_8_code 70 = .ok (.checkcast 24, 3) := by decide +kernel
theorem own_d15_73 : decode prog_17_method_8_code 73 = .ok (.getfield 26, 3) := by decide +kernel
theorem own_d15_76 : decode prog_17_method_8_code 76 = .ok (.invokestatic 58, 3) := by decide +kernel
theorem own_d15_79 : decode prog_17_method_8_code 79 = .ok (.putfield 16, 3) := by decide +kernel
theorem own_d15_82 : decode prog_17_method_8_code 82 = .ok (.goto (-82), 3) := by decide +kernel
theorem own_d15_85 : decode prog_17_method_8_code 85 = .ok (.return_, 1) := by decide +kernel
theorem own_ef_own_rm15_0 (m : MethodId) (x0 : Addr) : entryFrame m #[(.ref x0)] 1 = mkF m 0 #[.val (.ref x0)] [] := by first | (simp [entryFrame, mkF, argsToLocals, Value.category]; done) | rfl
def own_Q15_0 (Z : State) (a_1 : Addr) (q : Addr) (ar : Addr) (g : Nat → Value) (x : Addr) (cm : Int64) (pn : Int64) (h0 : Heap) (n0 : Nat) (v : Option Value) (h : Heap) (L : List Loc) : Prop := v = none ∧ Fr n0 L ∧ Keep h0 h [a_1, q, ar] ∧ Fld Z h a_1 "com/example/fencepost/fencepost/connector/SlotConfirmation" "unstored" "Ljava/util/ArrayDeque;" (.ref q) ∧ Fld Z h a_1 "com/example/fencepost/fencepost/connector/SlotConfirmation" "position" "J" (.long (own_rm20_ret pn cm)) ∧ Exa Z h q "java/util/ArrayDeque" ∧ Fld Z h q "java/util/ArrayDeque" "elements" "[Ljava/lang/Object;" (.ref ar) ∧ Fld Z h q "java/util/ArrayDeque" "head" "I" (.int (1 : Int32)) ∧ Fld Z h q "java/util/ArrayDeque" "tail" "I" (.int (1 : Int32)) ∧ own_AV Z h ar (.object "java/lang/Object") (17 : Int32) (own_upd g 0 .null)
set_option maxRecDepth 65536 in
set_option maxHeartbeats 40000000 in
theorem own_rm15_0 (l : Launch) (Z : State) (a0 : Array Value) (hw : ∀ d ∈ tables_1, d.before a0 Z = true) (ws : List Jvm.Cond) (a_1 : Addr) (q : Addr) (ar : Addr) (g : Nat → Value) (x : Addr) (cm : Int64) (pn : Int64) (h0 : Heap) (n0 : Nat) (Z0 : n0 ≤ h0.size) (pr_E_a_1 : Exa Z h0 a_1 "com/example/fencepost/fencepost/connector/SlotConfirmation") (pr_F_a_1_unstored : Fld Z h0 a_1 "com/example/fencepost/fencepost/connector/SlotConfirmation" "unstored" "Ljava/util/ArrayDeque;" (.ref q)) (pr_F_a_1_position : Fld Z h0 a_1 "com/example/fencepost/fencepost/connector/SlotConfirmation" "position" "J" (.long pn)) (pr_E_q : Exa Z h0 q "java/util/ArrayDeque") (pr_F_q_elements : Fld Z h0 q "java/util/ArrayDeque" "elements" "[Ljava/lang/Object;" (.ref ar)) (pr_F_q_head : Fld Z h0 q "java/util/ArrayDeque" "head" "I" (.int (0 : Int32))) (pr_F_q_tail : Fld Z h0 q "java/util/ArrayDeque" "tail" "I" (.int (1 : Int32))) (pr_A_ar : own_AV Z h0 ar (.object "java/lang/Object") (17 : Int32) g) (pr_E_x : Exa Z h0 x "com/example/fencepost/fencepost/connector/SlotConfirmation$Transaction") (pr_F_x_commit : Fld Z h0 x "com/example/fencepost/fencepost/connector/SlotConfirmation$Transaction" "commit" "J" (.long cm)) (pr_F_x_stored : Fld Z h0 x "com/example/fencepost/fencepost/connector/SlotConfirmation$Transaction" "stored" "J" (.long (0 : Int64))) (pr_F_x_changes : Fld Z h0 x "com/example/fencepost/fencepost/connector/SlotConfirmation$Transaction" "changes" "J" (.long (0 : Int64))) (hg0 : g 0 = .ref x) (ho_ : own_lts [a_1, q, ar, x]) (gw_a_1 : n0 ≤ a_1) (gw_q : n0 ≤ q) (gw_ar : n0 ≤ ar) :
    MetFree l (⟨"com/example/fencepost/fencepost/connector/SlotConfirmation", "settle", "()V"⟩ : MethodName) (head1 (Jvm.Cond.code (⟨"com/example/fencepost/fencepost/connector/SlotConfirmation", "settle", "()V"⟩ : MethodName) prog_17_method_8_code 1 none :: ws) ({ frames := 3, cells := 0, slots := 0, locals := 45 } : Room)) (fun a U => a = #[(.ref a_1)] ∧ Z.Warmed39 U.vm ∧ U.heap = h0) (fun _ _ _ _ _ => True) (fun _ U o U' => ∃ v L, o = .returned v ∧ own_Q15_0 Z a_1 q ar g x cm pn h0 n0 v U'.heap L ∧ FrameEnd U o U' L ({ frames := 3, cells := 0, slots := 0, locals := 45 } : Room).cells ({ frames := 3, cells := 0, slots := 0, locals := 45 } : Room).slots) := by
  refine MetFree.of_bodySF (plainFor_of_name own_pn2) hisR ?_
  intro p e s m args below meth c s₁ Bd hml0 hP hK
  obtain ⟨rfl, hZ, hh⟩ := hP
  have hx := Bd.exec
  have hby := Bd.bytes
  have hml : c.maxLocals = 1 := hml0
  have hown : s.vm.findClass "com/example/fencepost/fencepost/connector/SlotConfirmation" = some m.cls := findClass_of_methodNamed Bd.named
  have hnm := (name_of_methodNamed Bd.named Bd.method).1
  have X0 : Stand p l e ({ frames := 3, cells := 0, slots := 0, locals := 45 } : Room) s m #[(.ref a_1)] below meth c s₁ [] 0 0 := Stand.of_body Bd
  have e0 : s₁.heap = h0 := by rw [← hh, Bd.state]; rfl
  have N0 := Fr.nil n0
  have z0 : n0 ≤ h0.size := Z0
  have z1 := own_lt pr_E_a_1.lt
  have z2 := own_lt pr_F_a_1_unstored.lt
  have z3 := own_lt pr_F_a_1_position.lt
  have z4 := own_lt pr_E_q.lt
  have z5 := own_lt pr_F_q_elements.lt
  have z6 := own_lt pr_F_q_head.lt
  have z7 := own_lt pr_F_q_tail.lt
  have z8 := own_lt pr_A_ar.lt
  have z9 := own_lt pr_E_x.lt
  have z10 := own_lt pr_F_x_commit.lt
  have z11 := own_lt pr_F_x_stored.lt
  have z12 := own_lt pr_F_x_changes.lt
  have ho13 := ho_
  simp only [own_lts, and_true] at ho13
  have K0 : Keep h0 h0 [a_1, q, ar] := Keep.refl h0 _
  show own_Go p.tables e below (fun t o => t.status = .running ∧ Ended t below o ∧ ∃ v L, o = .returned v ∧ own_Q15_0 Z a_1 q ar g x cm pn h0 n0 v t.heap L ∧ FrameEnd s o t L ({ frames := 3, cells := 0, slots := 0, locals := 45 } : Room).cells ({ frames := 3, cells := 0, slots := 0, locals := 45 } : Room).slots) s₁ (entryFrame m #[(.ref a_1)] 1)
  rw [own_ef_own_rm15_0 m a_1]
  show own_Go _ _ _ _ s₁ (mkF m 0 #[.val (.ref a_1)] [])
  refine own_go (fun _ k => XS.aloadN X0.here hx rfl (hb hby own_d15_0) rfl rfl k) ?_
  show own_Go _ _ _ _ s₁ (mkF m 1 #[.val (.ref a_1)] [(.ref a_1)])
  obtain ⟨T14, X14, e14, st14⟩ := getF X0 hx hZ hown (host := "") (Or.inl (hw _ (List.mem_of_getElem? (i := 26) rfl))) Via.refl e0 pr_F_a_1_unstored (g := (mkF m 1 #[.val (.ref a_1)] [(.ref a_1)])) rfl rfl (hb hby own_d15_1)
  refine own_go (fun _ k => st14 _ k) ?_
  show own_Go _ _ _ _ T14 (mkF m 4 #[.val (.ref a_1)] [(.ref q)])
  obtain ⟨cq15, kq15, q15a, q15b, q15c⟩ := isOf hZ e14 pr_E_q
  obtain ⟨_, _, ⟨T15, L15, k15, n15⟩, -, X15, ⟨Lc15, hQ15, l15, y15, z15⟩, st15⟩ := X14.virtualBack hx (y := (⟨"java/util/ArrayDeque", "isEmpty", "()Z"⟩ : MethodName)) (z := (⟨"java/util/ArrayDeque", "isEmpty", "()Z"⟩ : MethodName)) hown (mvT hZ (hw _ (List.mem_of_getElem? (i := 92) rfl))) (mvT hZ (hw _ (List.mem_of_getElem? (i := 93) rfl))) (notFace_of_selects (args := #[]) (mvT hZ (hw _ (List.mem_of_getElem? (i := 95) rfl)))) (mvT hZ (hw _ (List.mem_of_getElem? (i := 95) rfl))) (mvT hZ (hw _ (List.mem_of_getElem? (i := 94) rfl))) (by decide) (backOf (W := 0) (own_rm16_01 l Z a0 hw [] q  h0 n0 (by omega) pr_F_q_head pr_F_q_tail) hZ (hw _ (List.mem_of_getElem? (i := 96) rfl)) (hw _ (List.mem_of_getElem? (i := 11) rfl)) (by decide) (by decide)) q15a q15c (g := (mkF m 4 #[.val (.ref a_1)] [(.ref q)])) rfl (by rw [hml]; rfl) (Steps.refl _) (argsL := []) (rest := []) (lenOf own_pd7 rfl) rfl (by show 2 * 0 + _ ≤ _; exact Nat.le_of_eq rfl) (hb hby own_d15_4) (fun _ _ => ⟨rfl, e14, (by decide : 0 + 0 ≤ _), (by decide : 0 + 0 ≤ _)⟩)
  dsimp only [Pt.U, Pt.locs, Pt.cells, Pt.slots] at X15 l15 y15 z15 st15 hQ15
  have y15 : k15 = 0 := y15
  have z15 : n15 = 0 := z15
  obtain ⟨rfl, N15q, e15⟩ := hQ15
  have N15 : Fr n0 L15 := by rw [l15]; exact Fr.app N0 N15q
  refine own_go (fun _ k => st15.trans k) ?_
  show own_Go _ _ _ _ T15 (mkF m 7 #[.val (.ref a_1)] [(.int (0 : Int32))])
  have hc16 : (0 : Int32) = 0 := by decide
  refine own_go (fun _ k => XS.ifNo X15.here hx rfl (hb hby own_d15_7) rfl (Jvm.Free.XT.i0_ne_f hc16) k) ?_
  show own_Go _ _ _ _ T15 (mkF m 10 #[.val (.ref a_1)] [])
  refine own_go (fun _ k => XS.aloadN X15.here hx rfl (hb hby own_d15_10) rfl rfl k) ?_
  show own_Go _ _ _ _ T15 (mkF m 11 #[.val (.ref a_1)] [(.ref a_1)])
  obtain ⟨T17, X17, e17, st17⟩ := getF X15 hx hZ hown (host := "") (Or.inl (hw _ (List.mem_of_getElem? (i := 26) rfl))) Via.refl e15 pr_F_a_1_unstored (g := (mkF m 11 #[.val (.ref a_1)] [(.ref a_1)])) rfl rfl (hb hby own_d15_11)
  refine own_go (fun _ k => st17 _ k) ?_
  show own_Go _ _ _ _ T17 (mkF m 14 #[.val (.ref a_1)] [(.ref q)])
  obtain ⟨cq18, kq18, q18a, q18b, q18c⟩ := isOf hZ e17 pr_E_q
  obtain ⟨_, _, ⟨T18, L18, k18, n18⟩, -, X18, ⟨Lc18, hQ18, l18, y18, z18⟩, st18⟩ := X17.virtualBack hx (y := (⟨"java/util/ArrayDeque", "getFirst", "()Ljava/lang/Object;"⟩ : MethodName)) (z := (⟨"java/util/ArrayDeque", "getFirst", "()Ljava/lang/Object;"⟩ : MethodName)) hown (mvT hZ (hw _ (List.mem_of_getElem? (i := 97) rfl))) (mvT hZ (hw _ (List.mem_of_getElem? (i := 98) rfl))) (notFace_of_selects (args := #[]) (mvT hZ (hw _ (List.mem_of_getElem? (i := 100) rfl)))) (mvT hZ (hw _ (List.mem_of_getElem? (i := 100) rfl))) (mvT hZ (hw _ (List.mem_of_getElem? (i := 99) rfl))) (by decide) (backOf (W := 0) (own_rm17_0 l Z a0 hw [] q ar g x h0 n0 (by omega) pr_F_q_elements pr_F_q_head pr_A_ar hg0) hZ (hw _ (List.mem_of_getElem? (i := 101) rfl)) (hw _ (List.mem_of_getElem? (i := 11) rfl)) (by decide) (by decide)) q18a q18c (g := (mkF m 14 #[.val (.ref a_1)] [(.ref q)])) rfl (by rw [hml]; rfl) (Steps.refl _) (argsL := []) (rest := []) (lenOf own_pd3 rfl) rfl (by show 2 * 0 + _ ≤ _; exact Nat.le_of_eq rfl) (hb hby own_d15_14) (fun _ _ => ⟨rfl, e17, (by show k15 + _ ≤ _; rw [y15]; decide), (by show n15 + _ ≤ _; rw [z15]; decide)⟩)
  dsimp only [Pt.U, Pt.locs, Pt.cells, Pt.slots] at X18 l18 y18 z18 st18 hQ18
  have y18 : k18 = 0 := own_addeq y18 (congrArg (fun q => q) y15) rfl
  have z18 : n18 = 0 := own_addeq z18 (congrArg (fun q => q) z15) rfl
  obtain ⟨rfl, N18q, e18⟩ := hQ18
  have N18 : Fr n0 L18 := by rw [l18]; exact Fr.app N15 N18q
  refine own_go (fun _ k => st18.trans k) ?_
  show own_Go _ _ _ _ T18 (mkF m 17 #[.val (.ref a_1)] [(.ref x)])
  obtain ⟨T19, X19, e19, st19⟩ := castY X18 hx hZ hown (hw _ (List.mem_of_getElem? (i := 46) rfl)) e18 (Ins.self pr_E_x) (g := (mkF m 17 #[.val (.ref a_1)] [(.ref x)])) rfl rfl (hb hby own_d15_17)
  refine own_go (fun _ k => st19 _ k) ?_
  show own_Go _ _ _ _ T19 (mkF m 20 #[.val (.ref a_1)] [(.ref x)])
  obtain ⟨T20, X20, e20, st20⟩ := own_getFR X19 hx hZ hown (hw _ (List.mem_of_getElem? (i := 87) rfl)) e19 pr_F_x_changes (g := (mkF m 20 #[.val (.ref a_1)] [(.ref x)])) rfl rfl (hb hby own_d15_20)
  refine own_go (fun _ k => st20 _ k) ?_
  show own_Go _ _ _ _ T20 (mkF m 23 #[.val (.ref a_1)] [(.long (0 : Int64))])
  refine own_go (fun _ k => XS.lconst X20.here hx rfl (hb hby own_d15_23) k) ?_
  show own_Go _ _ _ _ T20 (mkF m 24 #[.val (.ref a_1)] [(.long (0 : Int64)), (.long (0 : Int64))])
  refine own_go (fun _ k => XS.lcmp X20.here hx rfl (hb hby own_d15_24) rfl k) ?_
  show own_Go _ _ _ _ T20 (mkF m 25 #[.val (.ref a_1)] [(.int (lcmpW (0 : Int64) (0 : Int64)))])
  have hc21 : ¬ ((0 : Int64) < (0 : Int64)) := by decide
  refine own_go (fun _ k => XS.ifNo X20.here hx rfl (hb hby own_d15_25) rfl (Jvm.Free.XT.ll_lt_f hc21) k) ?_
  show own_Go _ _ _ _ T20 (mkF m 28 #[.val (.ref a_1)] [])
  refine own_go (fun _ k => XS.aloadN X20.here hx rfl (hb hby own_d15_28) rfl rfl k) ?_
  show own_Go _ _ _ _ T20 (mkF m 29 #[.val (.ref a_1)] [(.ref a_1)])
  obtain ⟨T22, X22, e22, st22⟩ := getF X20 hx hZ hown (host := "") (Or.inl (hw _ (List.mem_of_getElem? (i := 26) rfl))) Via.refl e20 pr_F_a_1_unstored (g := (mkF m 29 #[.val (.ref a_1)] [(.ref a_1)])) rfl rfl (hb hby own_d15_29)
  refine own_go (fun _ k => st22 _ k) ?_
  show own_Go _ _ _ _ T22 (mkF m 32 #[.val (.ref a_1)] [(.ref q)])
  obtain ⟨cq23, kq23, q23a, q23b, q23c⟩ := isOf hZ e22 pr_E_q
  obtain ⟨_, _, ⟨T23, L23, k23, n23⟩, -, X23, ⟨Lc23, hQ23, l23, y23, z23⟩, st23⟩ := X22.virtualBack hx (y := (⟨"java/util/ArrayDeque", "getFirst", "()Ljava/lang/Object;"⟩ : MethodName)) (z := (⟨"java/util/ArrayDeque", "getFirst", "()Ljava/lang/Object;"⟩ : MethodName)) hown (mvT hZ (hw _ (List.mem_of_getElem? (i := 97) rfl))) (mvT hZ (hw _ (List.mem_of_getElem? (i := 98) rfl))) (notFace_of_selects (args := #[]) (mvT hZ (hw _ (List.mem_of_getElem? (i := 100) rfl)))) (mvT hZ (hw _ (List.mem_of_getElem? (i := 100) rfl))) (mvT hZ (hw _ (List.mem_of_getElem? (i := 99) rfl))) (by decide) (backOf (W := 0) (own_rm17_0 l Z a0 hw [] q ar g x h0 n0 (by omega) pr_F_q_elements pr_F_q_head pr_A_ar hg0) hZ (hw _ (List.mem_of_getElem? (i := 101) rfl)) (hw _ (List.mem_of_getElem? (i := 11) rfl)) (by decide) (by decide)) q23a q23c (g := (mkF m 32 #[.val (.ref a_1)] [(.ref q)])) rfl (by rw [hml]; rfl) (Steps.refl _) (argsL := []) (rest := []) (lenOf own_pd3 rfl) rfl (by show 2 * 0 + _ ≤ _; exact Nat.le_of_eq rfl) (hb hby own_d15_32) (fun _ _ => ⟨rfl, e22, (by show k18 + _ ≤ _; rw [y18]; decide), (by show n18 + _ ≤ _; rw [z18]; decide)⟩)
  dsimp only [Pt.U, Pt.locs, Pt.cells, Pt.slots] at X23 l23 y23 z23 st23 hQ23
  have y23 : k23 = 0 := own_addeq y23 (congrArg (fun q => q) y18) rfl
  have z23 : n23 = 0 := own_addeq z23 (congrArg (fun q => q) z18) rfl
  obtain ⟨rfl, N23q, e23⟩ := hQ23
  have N23 : Fr n0 L23 := by rw [l23]; exact Fr.app N18 N23q
  refine own_go (fun _ k => st23.trans k) ?_
  show own_Go _ _ _ _ T23 (mkF m 35 #[.val (.ref a_1)] [(.ref x)])
  obtain ⟨T24, X24, e24, st24⟩ := castY X23 hx hZ hown (hw _ (List.mem_of_getElem? (i := 46) rfl)) e23 (Ins.self pr_E_x) (g := (mkF m 35 #[.val (.ref a_1)] [(.ref x)])) rfl rfl (hb hby own_d15_35)
  refine own_go (fun _ k => st24 _ k) ?_
  show own_Go _ _ _ _ T24 (mkF m 38 #[.val (.ref a_1)] [(.ref x)])
  obtain ⟨T25, X25, e25, st25⟩ := own_getFR X24 hx hZ hown (hw _ (List.mem_of_getElem? (i := 102) rfl)) e24 pr_F_x_stored (g := (mkF m 38 #[.val (.ref a_1)] [(.ref x)])) rfl rfl (hb hby own_d15_38)
  refine own_go (fun _ k => st25 _ k) ?_
  show own_Go _ _ _ _ T25 (mkF m 41 #[.val (.ref a_1)] [(.long (0 : Int64))])
  refine own_go (fun _ k => XS.aloadN X25.here hx rfl (hb hby own_d15_41) rfl rfl k) ?_
  show own_Go _ _ _ _ T25 (mkF m 42 #[.val (.ref a_1)] [(.ref a_1), (.long (0 : Int64))])
  obtain ⟨T26, X26, e26, st26⟩ := getF X25 hx hZ hown (host := "") (Or.inl (hw _ (List.mem_of_getElem? (i := 26) rfl))) Via.refl e25 pr_F_a_1_unstored (g := (mkF m 42 #[.val (.ref a_1)] [(.ref a_1), (.long (0 : Int64))])) rfl rfl (hb hby own_d15_42)
  refine own_go (fun _ k => st26 _ k) ?_
  show own_Go _ _ _ _ T26 (mkF m 45 #[.val (.ref a_1)] [(.ref q), (.long (0 : Int64))])
  obtain ⟨cq27, kq27, q27a, q27b, q27c⟩ := isOf hZ e26 pr_E_q
  obtain ⟨_, _, ⟨T27, L27, k27, n27⟩, -, X27, ⟨Lc27, hQ27, l27, y27, z27⟩, st27⟩ := X26.virtualBack hx (y := (⟨"java/util/ArrayDeque", "getFirst", "()Ljava/lang/Object;"⟩ : MethodName)) (z := (⟨"java/util/ArrayDeque", "getFirst", "()Ljava/lang/Object;"⟩ : MethodName)) hown (mvT hZ (hw _ (List.mem_of_getElem? (i := 97) rfl))) (mvT hZ (hw _ (List.mem_of_getElem? (i := 98) rfl))) (notFace_of_selects (args := #[]) (mvT hZ (hw _ (List.mem_of_getElem? (i := 100) rfl)))) (mvT hZ (hw _ (List.mem_of_getElem? (i := 100) rfl))) (mvT hZ (hw _ (List.mem_of_getElem? (i := 99) rfl))) (by decide) (backOf (W := 2) (own_rm17_0 l Z a0 hw [] q ar g x h0 n0 (by omega) pr_F_q_elements pr_F_q_head pr_A_ar hg0) hZ (hw _ (List.mem_of_getElem? (i := 101) rfl)) (hw _ (List.mem_of_getElem? (i := 11) rfl)) (by decide) (by decide)) q27a q27c (g := (mkF m 45 #[.val (.ref a_1)] [(.ref q), (.long (0 : Int64))])) rfl (by rw [hml]; rfl) (Steps.refl _) (argsL := []) (rest := [(.long (0 : Int64))]) (lenOf own_pd3 rfl) rfl (by show 2 * 0 + _ ≤ _; exact Nat.le_of_eq rfl) (hb hby own_d15_45) (fun _ _ => ⟨rfl, e26, (by show k23 + _ ≤ _; rw [y23]; decide), (by show n23 + _ ≤ _; rw [z23]; decide)⟩)
  dsimp only [Pt.U, Pt.locs, Pt.cells, Pt.slots] at X27 l27 y27 z27 st27 hQ27
  have y27 : k27 = 0 := own_addeq y27 (congrArg (fun q => q) y23) rfl
  have z27 : n27 = 0 := own_addeq z27 (congrArg (fun q => q) z23) rfl
  obtain ⟨rfl, N27q, e27⟩ := hQ27
  have N27 : Fr n0 L27 := by rw [l27]; exact Fr.app N23 N27q
  refine own_go (fun _ k => st27.trans k) ?_
  show own_Go _ _ _ _ T27 (mkF m 48 #[.val (.ref a_1)] [(.ref x), (.long (0 : Int64))])
  obtain ⟨T28, X28, e28, st28⟩ := castY X27 hx hZ hown (hw _ (List.mem_of_getElem? (i := 46) rfl)) e27 (Ins.self pr_E_x) (g := (mkF m 48 #[.val (.ref a_1)] [(.ref x), (.long (0 : Int64))])) rfl rfl (hb hby own_d15_48)
  refine own_go (fun _ k => st28 _ k) ?_
  show own_Go _ _ _ _ T28 (mkF m 51 #[.val (.ref a_1)] [(.ref x), (.long (0 : Int64))])
  obtain ⟨T29, X29, e29, st29⟩ := own_getFR X28 hx hZ hown (hw _ (List.mem_of_getElem? (i := 87) rfl)) e28 pr_F_x_changes (g := (mkF m 51 #[.val (.ref a_1)] [(.ref x), (.long (0 : Int64))])) rfl rfl (hb hby own_d15_51)
  refine own_go (fun _ k => st29 _ k) ?_
  show own_Go _ _ _ _ T29 (mkF m 54 #[.val (.ref a_1)] [(.long (0 : Int64)), (.long (0 : Int64))])
  refine own_go (fun _ k => XS.lcmp X29.here hx rfl (hb hby own_d15_54) rfl k) ?_
  show own_Go _ _ _ _ T29 (mkF m 55 #[.val (.ref a_1)] [(.int (lcmpW (0 : Int64) (0 : Int64)))])
  have hc30 : ¬ ((0 : Int64) < (0 : Int64)) := by decide
  refine own_go (fun _ k => XS.ifNo X29.here hx rfl (hb hby own_d15_55) rfl (Jvm.Free.XT.ll_lt_f hc30) k) ?_
  show own_Go _ _ _ _ T29 (mkF m 58 #[.val (.ref a_1)] [])
  refine own_go (fun _ k => XS.aloadN X29.here hx rfl (hb hby own_d15_58) rfl rfl k) ?_
  show own_Go _ _ _ _ T29 (mkF m 59 #[.val (.ref a_1)] [(.ref a_1)])
  refine own_go (fun _ k => XS.aloadN X29.here hx rfl (hb hby own_d15_59) rfl rfl k) ?_
  show own_Go _ _ _ _ T29 (mkF m 60 #[.val (.ref a_1)] [(.ref a_1), (.ref a_1)])
  obtain ⟨T31, X31, e31, st31⟩ := getF X29 hx hZ hown (host := "") (Or.inl (hw _ (List.mem_of_getElem? (i := 103) rfl))) Via.refl e29 pr_F_a_1_position (g := (mkF m 60 #[.val (.ref a_1)] [(.ref a_1), (.ref a_1)])) rfl rfl (hb hby own_d15_60)
  refine own_go (fun _ k => st31 _ k) ?_
  show own_Go _ _ _ _ T31 (mkF m 63 #[.val (.ref a_1)] [(.long pn), (.ref a_1)])
  refine own_go (fun _ k => XS.aloadN X31.here hx rfl (hb hby own_d15_63) rfl rfl k) ?_
  show own_Go _ _ _ _ T31 (mkF m 64 #[.val (.ref a_1)] [(.ref a_1), (.long pn), (.ref a_1)])
  obtain ⟨T32, X32, e32, st32⟩ := getF X31 hx hZ hown (host := "") (Or.inl (hw _ (List.mem_of_getElem? (i := 26) rfl))) Via.refl e31 pr_F_a_1_unstored (g := (mkF m 64 #[.val (.ref a_1)] [(.ref a_1), (.long pn), (.ref a_1)])) rfl rfl (hb hby own_d15_64)
  refine own_go (fun _ k => st32 _ k) ?_
  show own_Go _ _ _ _ T32 (mkF m 67 #[.val (.ref a_1)] [(.ref q), (.long pn), (.ref a_1)])
  obtain ⟨cq33, kq33, q33a, q33b, q33c⟩ := isOf hZ e32 pr_E_q
  obtain ⟨_, _, ⟨T33, L33, k33, n33⟩, -, X33, ⟨Lc33, hQ33, l33, y33, z33⟩, st33⟩ := X32.virtualBack hx (y := (⟨"java/util/ArrayDeque", "removeFirst", "()Ljava/lang/Object;"⟩ : MethodName)) (z := (⟨"java/util/ArrayDeque", "removeFirst", "()Ljava/lang/Object;"⟩ : MethodName)) hown (mvT hZ (hw _ (List.mem_of_getElem? (i := 105) rfl))) (mvT hZ (hw _ (List.mem_of_getElem? (i := 106) rfl))) (notFace_of_selects (args := #[]) (mvT hZ (hw _ (List.mem_of_getElem? (i := 108) rfl)))) (mvT hZ (hw _ (List.mem_of_getElem? (i := 108) rfl))) (mvT hZ (hw _ (List.mem_of_getElem? (i := 107) rfl))) (by decide) (backOf (W := 3) (own_rm18_0 l Z a0 hw [] q ar g x h0 n0 (by omega) pr_E_q pr_F_q_elements pr_F_q_head pr_F_q_tail pr_A_ar hg0 (by simp only [own_lts, and_true]; omega) (by omega) (by omega)) hZ (hw _ (List.mem_of_getElem? (i := 109) rfl)) (hw _ (List.mem_of_getElem? (i := 11) rfl)) (by decide) (by decide)) q33a q33c (g := (mkF m 67 #[.val (.ref a_1)] [(.ref q), (.long pn), (.ref a_1)])) rfl (by rw [hml]; rfl) (Steps.refl _) (argsL := []) (rest := [(.long pn), (.ref a_1)]) (lenOf own_pd3 rfl) rfl (by show 2 * 0 + _ ≤ _; exact Nat.le_of_eq rfl) (hb hby own_d15_67) (fun _ _ => ⟨rfl, e32, (by show k27 + _ ≤ _; rw [y27]; decide), (by show n27 + _ ≤ _; rw [z27]; decide)⟩)
  dsimp only [Pt.U, Pt.locs, Pt.cells, Pt.slots] at X33 l33 y33 z33 st33 hQ33
  have y33 : k33 = 0 := own_addeq y33 (congrArg (fun q => q) y27) rfl
  have z33 : n33 = 0 := own_addeq z33 (congrArg (fun q => q) z27) rfl
  obtain ⟨rfl, N33q, K33q, f34, f35, f36, f37, f38⟩ := hQ33
  have N33 : Fr n0 L33 := by rw [l33]; exact Fr.app N27 N33q
  have z39 := K33q.1
  have K33 : Keep h0 T33.heap [a_1, q, ar] := K0.trans K33q (allS (Or.inl (List.mem_of_getElem? (i := 1) rfl)) (allS (Or.inl (List.mem_of_getElem? (i := 2) rfl)) all0))
  have z40 := own_lt f34.lt
  have z41 := own_lt f35.lt
  have z42 := own_lt f36.lt
  have z43 := own_lt f37.lt
  have z44 := own_lt f38.lt
  refine own_go (fun _ k => st33.trans k) ?_
  show own_Go _ _ _ _ T33 (mkF m 70 #[.val (.ref a_1)] [(.ref x), (.long pn), (.ref a_1)])
  have f45 : Exa Z T33.heap x "com/example/fencepost/fencepost/connector/SlotConfirmation$Transaction" := (pr_E_x.keep K33q)
  obtain ⟨T46, X46, e46, st46⟩ := castY X33 hx hZ hown (hw _ (List.mem_of_getElem? (i := 46) rfl)) rfl (Ins.self f45) (g := (mkF m 70 #[.val (.ref a_1)] [(.ref x), (.long pn), (.ref a_1)])) rfl rfl (hb hby own_d15_70)
  refine own_go (fun _ k => st46 _ k) ?_
  show own_Go _ _ _ _ T46 (mkF m 73 #[.val (.ref a_1)] [(.ref x), (.long pn), (.ref a_1)])
  have f47 : Fld Z T33.heap x "com/example/fencepost/fencepost/connector/SlotConfirmation$Transaction" "commit" "J" (.long cm) := (pr_F_x_commit.keep K33q (ninS (own_ne (by omega)) (ninS (own_ne (by omega)) nin0)))
  obtain ⟨T48, X48, e48, st48⟩ := own_getFR X46 hx hZ hown (hw _ (List.mem_of_getElem? (i := 115) rfl)) e46 f47 (g := (mkF m 73 #[.val (.ref a_1)] [(.ref x), (.long pn), (.ref a_1)])) rfl rfl (hb hby own_d15_73)
  refine own_go (fun _ k => st48 _ k) ?_
  show own_Go _ _ _ _ T48 (mkF m 76 #[.val (.ref a_1)] [(.long cm), (.long pn), (.ref a_1)])
  obtain ⟨_, _, ⟨T49, L49, k49, n49⟩, -, X49, ⟨Lc49, hQ49, l49, y49, z49⟩, st49⟩ := Jvm.LawKit.callS X48 hx (y := (⟨"java/lang/Math", "max", "(JJ)J"⟩ : MethodName)) hown (mvT hZ (hw _ (List.mem_of_getElem? (i := 116) rfl))) (mvT hZ (hw _ (List.mem_of_getElem? (i := 117) rfl))) (mvT hZ (hw _ (List.mem_of_getElem? (i := 118) rfl))) (mvT hZ (hw _ (List.mem_of_getElem? (i := 119) rfl))) (by decide) (backOf (W := 1) (own_rm20 l Z a0 hw [] pn cm  T33.heap n0 (by omega) ) hZ (hw _ (List.mem_of_getElem? (i := 119) rfl)) (hw _ (List.mem_of_getElem? (i := 118) rfl)) (by decide) (by decide)) (g := (mkF m 76 #[.val (.ref a_1)] [(.long cm), (.long pn), (.ref a_1)])) rfl (by rw [hml]; rfl) (argsL := [(.long pn), (.long cm)]) (rest := [(.ref a_1)]) (lenOf own_pd8 rfl) rfl (by show 2 * 0 + _ ≤ _; exact Nat.le_of_eq rfl) (hb hby own_d15_76) (fun _ _ => ⟨rfl, e48, (by show k33 + _ ≤ _; rw [y33]; decide), (by show n33 + _ ≤ _; rw [z33]; decide)⟩)
  dsimp only [Pt.U, Pt.locs, Pt.cells, Pt.slots] at X49 l49 y49 z49 st49 hQ49
  have y49 : k49 = 0 := own_addeq y49 (congrArg (fun q => q) y33) rfl
  have z49 : n49 = 0 := own_addeq z49 (congrArg (fun q => q) z33) rfl
  obtain ⟨r50, rfl, N49q, hr_r50, e49⟩ := hQ49
  have N49 : Fr n0 L49 := by rw [l49]; exact Fr.app N33 N49q
  refine own_go (fun _ k => st49 _ k) ?_
  show own_Go _ _ _ _ T49 (mkF m 79 #[.val (.ref a_1)] [(.long r50), (.ref a_1)])
  have f51 : Exa Z T33.heap a_1 "com/example/fencepost/fencepost/connector/SlotConfirmation" := (pr_E_a_1.keep K33q)
  have f52 : Fld Z T33.heap a_1 "com/example/fencepost/fencepost/connector/SlotConfirmation" "position" "J" (.long pn) := (pr_F_a_1_position.keep K33q (ninS (own_ne (by omega)) (ninS (own_ne (by omega)) nin0)))
  obtain ⟨T53, h53, X53, e53, W53, st53⟩ := putF X49 hx hZ hown (host := "") (Or.inl (hw _ (List.mem_of_getElem? (i := 103) rfl))) Via.refl e49 f52 f51 (Or.inl (hw _ (List.mem_of_getElem? (i := 104) rfl))) (hw _ (List.mem_of_getElem? (i := 1) rfl)) (ty := .long) (by decide) rfl rfl (g := (mkF m 79 #[.val (.ref a_1)] [(.long r50), (.ref a_1)])) rfl rfl (hb hby own_d15_79)
  have z54 := W53.size
  have K53 : Keep h0 h53 [a_1, q, ar] := K33.wr W53 (Or.inl (List.mem_of_getElem? (i := 0) rfl))
  have N53 := Fr.snoc X53 N49 (by omega : n0 ≤ a_1)
  have Fw53 : Fld Z h53 a_1 "com/example/fencepost/fencepost/connector/SlotConfirmation" "position" "J" (.long r50) := Fld.same W53 f52
  refine own_go (fun _ k => st53 _ k) ?_
  show own_Go _ _ _ _ T53 (mkF m 82 #[.val (.ref a_1)] [])
  refine own_go (fun _ k => XS.goto X53.here hx rfl (pc0 := 82) (pc' := 0) rfl (hb hby own_d15_82) (by decide) (by decide) k) ?_
  show own_Go _ _ _ _ T53 (mkF m 0 #[.val (.ref a_1)] [])
  refine own_go (fun _ k => XS.aloadN X53.here hx rfl (hb hby own_d15_0) rfl rfl k) ?_
  show own_Go _ _ _ _ T53 (mkF m 1 #[.val (.ref a_1)] [(.ref a_1)])
  have f55 : Fld Z h53 a_1 "com/example/fencepost/fencepost/connector/SlotConfirmation" "unstored" "Ljava/util/ArrayDeque;" (.ref q) := ((pr_F_a_1_unstored.keep K33q (ninS (own_ne (by omega)) (ninS (own_ne (by omega)) nin0))).other W53 (Or.inr (slot_ne (Or.inr (hw _ (List.mem_of_getElem? (i := 27) rfl))) (Or.inl (hw _ (List.mem_of_getElem? (i := 104) rfl))) (by decide) (t := (.object "java/util/ArrayDeque")) (t' := .long) (by decide) (by decide))))
  obtain ⟨T56, X56, e56, st56⟩ := getF X53 hx hZ hown (host := "") (Or.inl (hw _ (List.mem_of_getElem? (i := 26) rfl))) Via.refl e53 f55 (g := (mkF m 1 #[.val (.ref a_1)] [(.ref a_1)])) rfl rfl (hb hby own_d15_1)
  refine own_go (fun _ k => st56 _ k) ?_
  show own_Go _ _ _ _ T56 (mkF m 4 #[.val (.ref a_1)] [(.ref q)])
  have f57 : Fld Z h53 q "java/util/ArrayDeque" "head" "I" (.int (1 : Int32)) := (f36.other W53 (Or.inl (own_ne (by omega))))
  have f58 : Fld Z h53 q "java/util/ArrayDeque" "tail" "I" (.int (1 : Int32)) := (f37.other W53 (Or.inl (own_ne (by omega))))
  have f60 : Exa Z h53 q "java/util/ArrayDeque" := (f34.wr W53)
  obtain ⟨cq59, kq59, q59a, q59b, q59c⟩ := isOf hZ e56 f60
  obtain ⟨_, _, ⟨T59, L59, k59, n59⟩, -, X59, ⟨Lc59, hQ59, l59, y59, z59⟩, st59⟩ := X56.virtualBack hx (y := (⟨"java/util/ArrayDeque", "isEmpty", "()Z"⟩ : MethodName)) (z := (⟨"java/util/ArrayDeque", "isEmpty", "()Z"⟩ : MethodName)) hown (mvT hZ (hw _ (List.mem_of_getElem? (i := 92) rfl))) (mvT hZ (hw _ (List.mem_of_getElem? (i := 93) rfl))) (notFace_of_selects (args := #[]) (mvT hZ (hw _ (List.mem_of_getElem? (i := 95) rfl)))) (mvT hZ (hw _ (List.mem_of_getElem? (i := 95) rfl))) (mvT hZ (hw _ (List.mem_of_getElem? (i := 94) rfl))) (by decide) (backOf (W := 0) (own_rm16_11 l Z a0 hw [] q  h53 n0 (by omega) f57 f58) hZ (hw _ (List.mem_of_getElem? (i := 96) rfl)) (hw _ (List.mem_of_getElem? (i := 11) rfl)) (by decide) (by decide)) q59a q59c (g := (mkF m 4 #[.val (.ref a_1)] [(.ref q)])) rfl (by rw [hml]; rfl) (Steps.refl _) (argsL := []) (rest := []) (lenOf own_pd7 rfl) rfl (by show 2 * 0 + _ ≤ _; exact Nat.le_of_eq rfl) (hb hby own_d15_4) (fun _ _ => ⟨rfl, e56, (by show k49 + _ ≤ _; rw [y49]; decide), (by show n49 + _ ≤ _; rw [z49]; decide)⟩)
  dsimp only [Pt.U, Pt.locs, Pt.cells, Pt.slots] at X59 l59 y59 z59 st59 hQ59
  have y59 : k59 = 0 := own_addeq y59 (congrArg (fun q => q) y49) rfl
  have z59 : n59 = 0 := own_addeq z59 (congrArg (fun q => q) z49) rfl
  obtain ⟨rfl, N59q, e59⟩ := hQ59
  have N59 : Fr n0 L59 := by rw [l59]; exact Fr.app N53 N59q
  refine own_go (fun _ k => st59.trans k) ?_
  show own_Go _ _ _ _ T59 (mkF m 7 #[.val (.ref a_1)] [(.int (1 : Int32))])
  have hc61 : ¬ ((1 : Int32) = 0) := by decide
  refine own_go (fun _ k => XS.ifYes X59.here hx rfl (pc0 := 7) (pc' := 85) rfl (hb hby own_d15_7) rfl (Jvm.Free.XT.i0_ne_t hc61) (by decide) (by decide) k) ?_
  show own_Go _ _ _ _ T59 (mkF m 85 #[.val (.ref a_1)] [])
  obtain ⟨fs, hr, hrun, hended, hW, hsame⟩ := X59.leave (v := none) (fun _ => rfl)
  refine ⟨_, _, X59.returnOut hx Bd.returns (hb hby own_d15_85) hr, hrun, hended, _, _, rfl, ?_, ⟨_, rfl⟩, hW, hsame.mono (by rw [y59]; decide) (by rw [z59]; decide)⟩
  show own_Q15_0 Z a_1 q ar g x cm pn h0 n0 _ T59.heap _
  rw [e59]
  have f63 : Fld Z h53 q "java/util/ArrayDeque" "elements" "[Ljava/lang/Object;" (.ref ar) := (f35.other W53 (Or.inl (own_ne (by omega))))
  have f64 : own_AV Z h53 ar (.object "java/lang/Object") (17 : Int32) (own_upd g 0 .null) := (f38.other W53 (own_ne (by omega)))
  exact ⟨rfl, N59, K53, f55, (by have hh : r50 = (own_rm20_ret pn cm) := (by subst hr_r50; rfl); rw [← hh]; exact Fw53), f60, f63, f57, f58, f64⟩
theorem own_ef_own_rm15_1 (m : MethodId) (x0 : Addr) : entryFrame m #[(.ref x0)] 1 = mkF m 0 #[.val (.ref x0)] [] := by first | (simp [entryFrame, mkF, argsToLocals, Value.category]; done) | rfl
def own_Q15_1 (Z : State) (a_1 : Addr) (q : Addr) (ar : Addr) (g : Nat → Value) (x : Addr) (cm : Int64) (pn : Int64) (h0 : Heap) (n0 : Nat) (v : Option Value) (h : Heap) (L : List Loc) : Prop := v = none ∧ Fr n0 L ∧ Keep h0 h [a_1, q, ar] ∧ Fld Z h a_1 "com/example/fencepost/fencepost/connector/SlotConfirmation" "unstored" "Ljava/util/ArrayDeque;" (.ref q) ∧ Fld Z h a_1 "com/example/fencepost/fencepost/connector/SlotConfirmation" "position" "J" (.long (own_rm20_ret pn cm)) ∧ Exa Z h q "java/util/ArrayDeque" ∧ Fld Z h q "java/util/ArrayDeque" "elements" "[Ljava/lang/Object;" (.ref ar) ∧ Fld Z h q "java/util/ArrayDeque" "head" "I" (.int (2 : Int32)) ∧ Fld Z h q "java/util/ArrayDeque" "tail" "I" (.int (2 : Int32)) ∧ own_AV Z h ar (.object "java/lang/Object") (17 : Int32) (own_upd g 1 .null)
set_option maxRecDepth 65536 in
set_option maxHeartbeats 40000000 in
theorem own_rm15_1 (l : Launch) (Z : State) (a0 : Array Value) (hw : ∀ d ∈ tables_1, d.before a0 Z = true) (ws : List Jvm.Cond) (a_1 : Addr) (q : Addr) (ar : Addr) (g : Nat → Value) (x : Addr) (cm : Int64) (pn : Int64) (h0 : Heap) (n0 : Nat) (Z0 : n0 ≤ h0.size) (pr_E_a_1 : Exa Z h0 a_1 "com/example/fencepost/fencepost/connector/SlotConfirmation") (pr_F_a_1_unstored : Fld Z h0 a_1 "com/example/fencepost/fencepost/connector/SlotConfirmation" "unstored" "Ljava/util/ArrayDeque;" (.ref q)) (pr_F_a_1_position : Fld Z h0 a_1 "com/example/fencepost/fencepost/connector/SlotConfirmation" "position" "J" (.long pn)) (pr_E_q : Exa Z h0 q "java/util/ArrayDeque") (pr_F_q_elements : Fld Z h0 q "java/util/ArrayDeque" "elements" "[Ljava/lang/Object;" (.ref ar)) (pr_F_q_head : Fld Z h0 q "java/util/ArrayDeque" "head" "I" (.int (1 : Int32))) (pr_F_q_tail : Fld Z h0 q "java/util/ArrayDeque" "tail" "I" (.int (2 : Int32))) (pr_A_ar : own_AV Z h0 ar (.object "java/lang/Object") (17 : Int32) g) (pr_E_x : Exa Z h0 x "com/example/fencepost/fencepost/connector/SlotConfirmation$Transaction") (pr_F_x_commit : Fld Z h0 x "com/example/fencepost/fencepost/connector/SlotConfirmation$Transaction" "commit" "J" (.long cm)) (pr_F_x_stored : Fld Z h0 x "com/example/fencepost/fencepost/connector/SlotConfirmation$Transaction" "stored" "J" (.long (0 : Int64))) (pr_F_x_changes : Fld Z h0 x "com/example/fencepost/fencepost/connector/SlotConfirmation$Transaction" "changes" "J" (.long (0 : Int64))) (hg1 : g 1 = .ref x) (ho_ : own_lts [a_1, q, ar, x]) (gw_a_1 : n0 ≤ a_1) (gw_q : n0 ≤ q) (gw_ar : n0 ≤ ar) :
    MetFree l (⟨"com/example/fencepost/fencepost/connector/SlotConfirmation", "settle", "()V"⟩ : MethodName) (head1 (Jvm.Cond.code (⟨"com/example/fencepost/fencepost/connector/SlotConfirmation", "settle", "()V"⟩ : MethodName) prog_17_method_8_code 1 none :: ws) ({ frames := 3, cells := 0, slots := 0, locals := 45 } : Room)) (fun a U => a = #[(.ref a_1)] ∧ Z.Warmed39 U.vm ∧ U.heap = h0) (fun _ _ _ _ _ => True) (fun _ U o U' => ∃ v L, o = .returned v ∧ own_Q15_1 Z a_1 q ar g x cm pn h0 n0 v U'.heap L ∧ FrameEnd U o U' L ({ frames := 3, cells := 0, slots := 0, locals := 45 } : Room).cells ({ frames := 3, cells := 0, slots := 0, locals := 45 } : Room).slots) := by
  refine MetFree.of_bodySF (plainFor_of_name own_pn2) hisR ?_
  intro p e s m args below meth c s₁ Bd hml0 hP hK
  obtain ⟨rfl, hZ, hh⟩ := hP
  have hx := Bd.exec
  have hby := Bd.bytes
  have hml : c.maxLocals = 1 := hml0
  have hown : s.vm.findClass "com/example/fencepost/fencepost/connector/SlotConfirmation" = some m.cls := findClass_of_methodNamed Bd.named
  have hnm := (name_of_methodNamed Bd.named Bd.method).1
  have X0 : Stand p l e ({ frames := 3, cells := 0, slots := 0, locals := 45 } : Room) s m #[(.ref a_1)] below meth c s₁ [] 0 0 := Stand.of_body Bd
  have e0 : s₁.heap = h0 := by rw [← hh, Bd.state]; rfl
  have N0 := Fr.nil n0
  have z0 : n0 ≤ h0.size := Z0
  have z1 := own_lt pr_E_a_1.lt
  have z2 := own_lt pr_F_a_1_unstored.lt
  have z3 := own_lt pr_F_a_1_position.lt
  have z4 := own_lt pr_E_q.lt
  have z5 := own_lt pr_F_q_elements.lt
  have z6 := own_lt pr_F_q_head.lt
  have z7 := own_lt pr_F_q_tail.lt
  have z8 := own_lt pr_A_ar.lt
  have z9 := own_lt pr_E_x.lt
  have z10 := own_lt pr_F_x_commit.lt
  have z11 := own_lt pr_F_x_stored.lt
  have z12 := own_lt pr_F_x_changes.lt
  have ho13 := ho_
  simp only [own_lts, and_true] at ho13
  have K0 : Keep h0 h0 [a_1, q, ar] := Keep.refl h0 _
  show own_Go p.tables e below (fun t o => t.status = .running ∧ Ended t below o ∧ ∃ v L, o = .returned v ∧ own_Q15_1 Z a_1 q ar g x cm pn h0 n0 v t.heap L ∧ FrameEnd s o t L ({ frames := 3, cells := 0, slots := 0, locals := 45 } : Room).cells ({ frames := 3, cells := 0, slots := 0, locals := 45 } : Room).slots) s₁ (entryFrame m #[(.ref a_1)] 1)
  rw [own_ef_own_rm15_1 m a_1]
  show own_Go _ _ _ _ s₁ (mkF m 0 #[.val (.ref a_1)] [])
  refine own_go (fun _ k => XS.aloadN X0.here hx rfl (hb hby own_d15_0) rfl rfl k) ?_
  show own_Go _ _ _ _ s₁ (mkF m 1 #[.val (.ref a_1)] [(.ref a_1)])
  obtain ⟨T14, X14, e14, st14⟩ := getF X0 hx hZ hown (host := "") (Or.inl (hw _ (List.mem_of_getElem? (i := 26) rfl))) Via.refl e0 pr_F_a_1_unstored (g := (mkF m 1 #[.val (.ref a_1)] [(.ref a_1)])) rfl rfl (hb hby own_d15_1)
  refine own_go (fun _ k => st14 _ k) ?_
  show own_Go _ _ _ _ T14 (mkF m 4 #[.val (.ref a_1)] [(.ref q)])
  obtain ⟨cq15, kq15, q15a, q15b, q15c⟩ := isOf hZ e14 pr_E_q
  obtain ⟨_, _, ⟨T15, L15, k15, n15⟩, -, X15, ⟨Lc15, hQ15, l15, y15, z15⟩, st15⟩ := X14.virtualBack hx (y := (⟨"java/util/ArrayDeque", "isEmpty", "()Z"⟩ : MethodName)) (z := (⟨"java/util/ArrayDeque", "isEmpty", "()Z"⟩ : MethodName)) hown (mvT hZ (hw _ (List.mem_of_getElem? (i := 92) rfl))) (mvT hZ (hw _ (List.mem_of_getElem? (i := 93) rfl))) (notFace_of_selects (args := #[]) (mvT hZ (hw _ (List.mem_of_getElem? (i := 95) rfl)))) (mvT hZ (hw _ (List.mem_of_getElem? (i := 95) rfl))) (mvT hZ (hw _ (List.mem_of_getElem? (i := 94) rfl))) (by decide) (backOf (W := 0) (own_rm16_12 l Z a0 hw [] q  h0 n0 (by omega) pr_F_q_head pr_F_q_tail) hZ (hw _ (List.mem_of_getElem? (i := 96) rfl)) (hw _ (List.mem_of_getElem? (i := 11) rfl)) (by decide) (by decide)) q15a q15c (g := (mkF m 4 #[.val (.ref a_1)] [(.ref q)])) rfl (by rw [hml]; rfl) (Steps.refl _) (argsL := []) (rest := []) (lenOf own_pd7 rfl) rfl (by show 2 * 0 + _ ≤ _; exact Nat.le_of_eq rfl) (hb hby own_d15_4) (fun _ _ => ⟨rfl, e14, (by decide : 0 + 0 ≤ _), (by decide : 0 + 0 ≤ _)⟩)
  dsimp only [Pt.U, Pt.locs, Pt.cells, Pt.slots] at X15 l15 y15 z15 st15 hQ15
  have y15 : k15 = 0 := y15
  have z15 : n15 = 0 := z15
  obtain ⟨rfl, N15q, e15⟩ := hQ15
  have N15 : Fr n0 L15 := by rw [l15]; exact Fr.app N0 N15q
  refine own_go (fun _ k => st15.trans k) ?_
  show own_Go _ _ _ _ T15 (mkF m 7 #[.val (.ref a_1)] [(.int (0 : Int32))])
  have hc16 : (0 : Int32) = 0 := by decide
  refine own_go (fun _ k => XS.ifNo X15.here hx rfl (hb hby own_d15_7) rfl (Jvm.Free.XT.i0_ne_f hc16) k) ?_
  show own_Go _ _ _ _ T15 (mkF m 10 #[.val (.ref a_1)] [])
  refine own_go (fun _ k => XS.aloadN X15.here hx rfl (hb hby own_d15_10) rfl rfl k) ?_
  show own_Go _ _ _ _ T15 (mkF m 11 #[.val (.ref a_1)] [(.ref a_1)])
  obtain ⟨T17, X17, e17, st17⟩ := getF X15 hx hZ hown (host := "") (Or.inl (hw _ (List.mem_of_getElem? (i := 26) rfl))) Via.refl e15 pr_F_a_1_unstored (g := (mkF m 11 #[.val (.ref a_1)] [(.ref a_1)])) rfl rfl (hb hby own_d15_11)
  refine own_go (fun _ k => st17 _ k) ?_
  show own_Go _ _ _ _ T17 (mkF m 14 #[.val (.ref a_1)] [(.ref q)])
  obtain ⟨cq18, kq18, q18a, q18b, q18c⟩ := isOf hZ e17 pr_E_q
  obtain ⟨_, _, ⟨T18, L18, k18, n18⟩, -, X18, ⟨Lc18, hQ18, l18, y18, z18⟩, st18⟩ := X17.virtualBack hx (y := (⟨"java/util/ArrayDeque", "getFirst", "()Ljava/lang/Object;"⟩ : MethodName)) (z := (⟨"java/util/ArrayDeque", "getFirst", "()Ljava/lang/Object;"⟩ : MethodName)) hown (mvT hZ (hw _ (List.mem_of_getElem? (i := 97) rfl))) (mvT hZ (hw _ (List.mem_of_getElem? (i := 98) rfl))) (notFace_of_selects (args := #[]) (mvT hZ (hw _ (List.mem_of_getElem? (i := 100) rfl)))) (mvT hZ (hw _ (List.mem_of_getElem? (i := 100) rfl))) (mvT hZ (hw _ (List.mem_of_getElem? (i := 99) rfl))) (by decide) (backOf (W := 0) (own_rm17_1 l Z a0 hw [] q ar g x h0 n0 (by omega) pr_F_q_elements pr_F_q_head pr_A_ar hg1) hZ (hw _ (List.mem_of_getElem? (i := 101) rfl)) (hw _ (List.mem_of_getElem? (i := 11) rfl)) (by decide) (by decide)) q18a q18c (g := (mkF m 14 #[.val (.ref a_1)] [(.ref q)])) rfl (by rw [hml]; rfl) (Steps.refl _) (argsL := []) (rest := []) (lenOf own_pd3 rfl) rfl (by show 2 * 0 + _ ≤ _; exact Nat.le_of_eq rfl) (hb hby own_d15_14) (fun _ _ => ⟨rfl, e17, (by show k15 + _ ≤ _; rw [y15]; decide), (by show n15 + _ ≤ _; rw [z15]; decide)⟩)
  dsimp only [Pt.U, Pt.locs, Pt.cells, Pt.slots] at X18 l18 y18 z18 st18 hQ18
  have y18 : k18 = 0 := own_addeq y18 (congrArg (fun q => q) y15) rfl
  have z18 : n18 = 0 := own_addeq z18 (congrArg (fun q => q) z15) rfl
  obtain ⟨rfl, N18q, e18⟩ := hQ18
  have N18 : Fr n0 L18 := by rw [l18]; exact Fr.app N15 N18q
  refine own_go (fun _ k => st18.trans k) ?_
  show own_Go _ _ _ _ T18 (mkF m 17 #[.val (.ref a_1)] [(.ref x)])
  obtain ⟨T19, X19, e19, st19⟩ := castY X18 hx hZ hown (hw _ (List.mem_of_getElem? (i := 46) rfl)) e18 (Ins.self pr_E_x) (g := (mkF m 17 #[.val (.ref a_1)] [(.ref x)])) rfl rfl (hb hby own_d15_17)
  refine own_go (fun _ k => st19 _ k) ?_
  show own_Go _ _ _ _ T19 (mkF m 20 #[.val (.ref a_1)] [(.ref x)])
  obtain ⟨T20, X20, e20, st20⟩ := own_getFR X19 hx hZ hown (hw _ (List.mem_of_getElem? (i := 87) rfl)) e19 pr_F_x_changes (g := (mkF m 20 #[.val (.ref a_1)] [(.ref x)])) rfl rfl (hb hby own_d15_20)
  refine own_go (fun _ k => st20 _ k) ?_
  show own_Go _ _ _ _ T20 (mkF m 23 #[.val (.ref a_1)] [(.long (0 : Int64))])
  refine own_go (fun _ k => XS.lconst X20.here hx rfl (hb hby own_d15_23) k) ?_
  show own_Go _ _ _ _ T20 (mkF m 24 #[.val (.ref a_1)] [(.long (0 : Int64)), (.long (0 : Int64))])
  refine own_go (fun _ k => XS.lcmp X20.here hx rfl (hb hby own_d15_24) rfl k) ?_
  show own_Go _ _ _ _ T20 (mkF m 25 #[.val (.ref a_1)] [(.int (lcmpW (0 : Int64) (0 : Int64)))])
  have hc21 : ¬ ((0 : Int64) < (0 : Int64)) := by decide
  refine own_go (fun _ k => XS.ifNo X20.here hx rfl (hb hby own_d15_25) rfl (Jvm.Free.XT.ll_lt_f hc21) k) ?_
  show own_Go _ _ _ _ T20 (mkF m 28 #[.val (.ref a_1)] [])
  refine own_go (fun _ k => XS.aloadN X20.here hx rfl (hb hby own_d15_28) rfl rfl k) ?_
  show own_Go _ _ _ _ T20 (mkF m 29 #[.val (.ref a_1)] [(.ref a_1)])
  obtain ⟨T22, X22, e22, st22⟩ := getF X20 hx hZ hown (host := "") (Or.inl (hw _ (List.mem_of_getElem? (i := 26) rfl))) Via.refl e20 pr_F_a_1_unstored (g := (mkF m 29 #[.val (.ref a_1)] [(.ref a_1)])) rfl rfl (hb hby own_d15_29)
  refine own_go (fun _ k => st22 _ k) ?_
  show own_Go _ _ _ _ T22 (mkF m 32 #[.val (.ref a_1)] [(.ref q)])
  obtain ⟨cq23, kq23, q23a, q23b, q23c⟩ := isOf hZ e22 pr_E_q
  obtain ⟨_, _, ⟨T23, L23, k23, n23⟩, -, X23, ⟨Lc23, hQ23, l23, y23, z23⟩, st23⟩ := X22.virtualBack hx (y := (⟨"java/util/ArrayDeque", "getFirst", "()Ljava/lang/Object;"⟩ : MethodName)) (z := (⟨"java/util/ArrayDeque", "getFirst", "()Ljava/lang/Object;"⟩ : MethodName)) hown (mvT hZ (hw _ (List.mem_of_getElem? (i := 97) rfl))) (mvT hZ (hw _ (List.mem_of_getElem? (i := 98) rfl))) (notFace_of_selects (args := #[]) (mvT hZ (hw _ (List.mem_of_getElem? (i := 100) rfl)))) (mvT hZ (hw _ (List.mem_of_getElem? (i := 100) rfl))) (mvT hZ (hw _ (List.mem_of_getElem? (i := 99) rfl))) (by decide) (backOf (W := 0) (own_rm17_1 l Z a0 hw [] q ar g x h0 n0 (by omega) pr_F_q_elements pr_F_q_head pr_A_ar hg1) hZ (hw _ (List.mem_of_getElem? (i := 101) rfl)) (hw _ (List.mem_of_getElem? (i := 11) rfl)) (by decide) (by decide)) q23a q23c (g := (mkF m 32 #[.val (.ref a_1)] [(.ref q)])) rfl (by rw [hml]; rfl) (Steps.refl _) (argsL := []) (rest := []) (lenOf own_pd3 rfl) rfl (by show 2 * 0 + _ ≤ _; exact Nat.le_of_eq rfl) (hb hby own_d15_32) (fun _ _ => ⟨rfl, e22, (by show k18 + _ ≤ _; rw [y18]; decide), (by show n18 + _ ≤ _; rw [z18]; decide)⟩)
  dsimp only [Pt.U, Pt.locs, Pt.cells, Pt.slots] at X23 l23 y23 z23 st23 hQ23
  have y23 : k23 = 0 := own_addeq y23 (congrArg (fun q => q) y18) rfl
  have z23 : n23 = 0 := own_addeq z23 (congrArg (fun q => q) z18) rfl
  obtain ⟨rfl, N23q, e23⟩ := hQ23
  have N23 : Fr n0 L23 := by rw [l23]; exact Fr.app N18 N23q
  refine own_go (fun _ k => st23.trans k) ?_
  show own_Go _ _ _ _ T23 (mkF m 35 #[.val (.ref a_1)] [(.ref x)])
  obtain ⟨T24, X24, e24, st24⟩ := castY X23 hx hZ hown (hw _ (List.mem_of_getElem? (i := 46) rfl)) e23 (Ins.self pr_E_x) (g := (mkF m 35 #[.val (.ref a_1)] [(.ref x)])) rfl rfl (hb hby own_d15_35)
  refine own_go (fun _ k => st24 _ k) ?_
  show own_Go _ _ _ _ T24 (mkF m 38 #[.val (.ref a_1)] [(.ref x)])
  obtain ⟨T25, X25, e25, st25⟩ := own_getFR X24 hx hZ hown (hw _ (List.mem_of_getElem? (i := 102) rfl)) e24 pr_F_x_stored (g := (mkF m 38 #[.val (.ref a_1)] [(.ref x)])) rfl rfl (hb hby own_d15_38)
  refine own_go (fun _ k => st25 _ k) ?_
  show own_Go _ _ _ _ T25 (mkF m 41 #[.val (.ref a_1)] [(.long (0 : Int64))])
  refine own_go (fun _ k => XS.aloadN X25.here hx rfl (hb hby own_d15_41) rfl rfl k) ?_
  show own_Go _ _ _ _ T25 (mkF m 42 #[.val (.ref a_1)] [(.ref a_1), (.long (0 : Int64))])
  obtain ⟨T26, X26, e26, st26⟩ := getF X25 hx hZ hown (host := "") (Or.inl (hw _ (List.mem_of_getElem? (i := 26) rfl))) Via.refl e25 pr_F_a_1_unstored (g := (mkF m 42 #[.val (.ref a_1)] [(.ref a_1), (.long (0 : Int64))])) rfl rfl (hb hby own_d15_42)
  refine own_go (fun _ k => st26 _ k) ?_
  show own_Go _ _ _ _ T26 (mkF m 45 #[.val (.ref a_1)] [(.ref q), (.long (0 : Int64))])
  obtain ⟨cq27, kq27, q27a, q27b, q27c⟩ := isOf hZ e26 pr_E_q
  obtain ⟨_, _, ⟨T27, L27, k27, n27⟩, -, X27, ⟨Lc27, hQ27, l27, y27, z27⟩, st27⟩ := X26.virtualBack hx (y := (⟨"java/util/ArrayDeque", "getFirst", "()Ljava/lang/Object;"⟩ : MethodName)) (z := (⟨"java/util/ArrayDeque", "getFirst", "()Ljava/lang/Object;"⟩ : MethodName)) hown (mvT hZ (hw _ (List.mem_of_getElem? (i := 97) rfl))) (mvT hZ (hw _ (List.mem_of_getElem? (i := 98) rfl))) (notFace_of_selects (args := #[]) (mvT hZ (hw _ (List.mem_of_getElem? (i := 100) rfl)))) (mvT hZ (hw _ (List.mem_of_getElem? (i := 100) rfl))) (mvT hZ (hw _ (List.mem_of_getElem? (i := 99) rfl))) (by decide) (backOf (W := 2) (own_rm17_1 l Z a0 hw [] q ar g x h0 n0 (by omega) pr_F_q_elements pr_F_q_head pr_A_ar hg1) hZ (hw _ (List.mem_of_getElem? (i := 101) rfl)) (hw _ (List.mem_of_getElem? (i := 11) rfl)) (by decide) (by decide)) q27a q27c (g := (mkF m 45 #[.val (.ref a_1)] [(.ref q), (.long (0 : Int64))])) rfl (by rw [hml]; rfl) (Steps.refl _) (argsL := []) (rest := [(.long (0 : Int64))]) (lenOf own_pd3 rfl) rfl (by show 2 * 0 + _ ≤ _; exact Nat.le_of_eq rfl) (hb hby own_d15_45) (fun _ _ => ⟨rfl, e26, (by show k23 + _ ≤ _; rw [y23]; decide), (by show n23 + _ ≤ _; rw [z23]; decide)⟩)
  dsimp only [Pt.U, Pt.locs, Pt.cells, Pt.slots] at X27 l27 y27 z27 st27 hQ27
  have y27 : k27 = 0 := own_addeq y27 (congrArg (fun q => q) y23) rfl
  have z27 : n27 = 0 := own_addeq z27 (congrArg (fun q => q) z23) rfl
  obtain ⟨rfl, N27q, e27⟩ := hQ27
  have N27 : Fr n0 L27 := by rw [l27]; exact Fr.app N23 N27q
  refine own_go (fun _ k => st27.trans k) ?_
  show own_Go _ _ _ _ T27 (mkF m 48 #[.val (.ref a_1)] [(.ref x), (.long (0 : Int64))])
  obtain ⟨T28, X28, e28, st28⟩ := castY X27 hx hZ hown (hw _ (List.mem_of_getElem? (i := 46) rfl)) e27 (Ins.self pr_E_x) (g := (mkF m 48 #[.val (.ref a_1)] [(.ref x), (.long (0 : Int64))])) rfl rfl (hb hby own_d15_48)
  refine own_go (fun _ k => st28 _ k) ?_
  show own_Go _ _ _ _ T28 (mkF m 51 #[.val (.ref a_1)] [(.ref x), (.long (0 : Int64))])
  obtain ⟨T29, X29, e29, st29⟩ := own_getFR X28 hx hZ hown (hw _ (List.mem_of_getElem? (i := 87) rfl)) e28 pr_F_x_changes (g := (mkF m 51 #[.val (.ref a_1)] [(.ref x), (.long (0 : Int64))])) rfl rfl (hb hby own_d15_51)
  refine own_go (fun _ k => st29 _ k) ?_
  show own_Go _ _ _ _ T29 (mkF m 54 #[.val (.ref a_1)] [(.long (0 : Int64)), (.long (0 : Int64))])
  refine own_go (fun _ k => XS.lcmp X29.here hx rfl (hb hby own_d15_54) rfl k) ?_
  show own_Go _ _ _ _ T29 (mkF m 55 #[.val (.ref a_1)] [(.int (lcmpW (0 : Int64) (0 : Int64)))])
  have hc30 : ¬ ((0 : Int64) < (0 : Int64)) := by decide
  refine own_go (fun _ k => XS.ifNo X29.here hx rfl (hb hby own_d15_55) rfl (Jvm.Free.XT.ll_lt_f hc30) k) ?_
  show own_Go _ _ _ _ T29 (mkF m 58 #[.val (.ref a_1)] [])
  refine own_go (fun _ k => XS.aloadN X29.here hx rfl (hb hby own_d15_58) rfl rfl k) ?_
  show own_Go _ _ _ _ T29 (mkF m 59 #[.val (.ref a_1)] [(.ref a_1)])
  refine own_go (fun _ k => XS.aloadN X29.here hx rfl (hb hby own_d15_59) rfl rfl k) ?_
  show own_Go _ _ _ _ T29 (mkF m 60 #[.val (.ref a_1)] [(.ref a_1), (.ref a_1)])
  obtain ⟨T31, X31, e31, st31⟩ := getF X29 hx hZ hown (host := "") (Or.inl (hw _ (List.mem_of_getElem? (i := 103) rfl))) Via.refl e29 pr_F_a_1_position (g := (mkF m 60 #[.val (.ref a_1)] [(.ref a_1), (.ref a_1)])) rfl rfl (hb hby own_d15_60)
  refine own_go (fun _ k => st31 _ k) ?_
  show own_Go _ _ _ _ T31 (mkF m 63 #[.val (.ref a_1)] [(.long pn), (.ref a_1)])
  refine own_go (fun _ k => XS.aloadN X31.here hx rfl (hb hby own_d15_63) rfl rfl k) ?_
  show own_Go _ _ _ _ T31 (mkF m 64 #[.val (.ref a_1)] [(.ref a_1), (.long pn), (.ref a_1)])
  obtain ⟨T32, X32, e32, st32⟩ := getF X31 hx hZ hown (host := "") (Or.inl (hw _ (List.mem_of_getElem? (i := 26) rfl))) Via.refl e31 pr_F_a_1_unstored (g := (mkF m 64 #[.val (.ref a_1)] [(.ref a_1), (.long pn), (.ref a_1)])) rfl rfl (hb hby own_d15_64)
  refine own_go (fun _ k => st32 _ k) ?_
  show own_Go _ _ _ _ T32 (mkF m 67 #[.val (.ref a_1)] [(.ref q), (.long pn), (.ref a_1)])
  obtain ⟨cq33, kq33, q33a, q33b, q33c⟩ := isOf hZ e32 pr_E_q
  obtain ⟨_, _, ⟨T33, L33, k33, n33⟩, -, X33, ⟨Lc33, hQ33, l33, y33, z33⟩, st33⟩ := X32.virtualBack hx (y := (⟨"java/util/ArrayDeque", "removeFirst", "()Ljava/lang/Object;"⟩ : MethodName)) (z := (⟨"java/util/ArrayDeque", "removeFirst", "()Ljava/lang/Object;"⟩ : MethodName)) hown (mvT hZ (hw _ (List.mem_of_getElem? (i := 105) rfl))) (mvT hZ (hw _ (List.mem_of_getElem? (i := 106) rfl))) (notFace_of_selects (args := #[]) (mvT hZ (hw _ (List.mem_of_getElem? (i := 108) rfl)))) (mvT hZ (hw _ (List.mem_of_getElem? (i := 108) rfl))) (mvT hZ (hw _ (List.mem_of_getElem? (i := 107) rfl))) (by decide) (backOf (W := 3) (own_rm18_1 l Z a0 hw [] q ar g x h0 n0 (by omega) pr_E_q pr_F_q_elements pr_F_q_head pr_F_q_tail pr_A_ar hg1 (by simp only [own_lts, and_true]; omega) (by omega) (by omega)) hZ (hw _ (List.mem_of_getElem? (i := 109) rfl)) (hw _ (List.mem_of_getElem? (i := 11) rfl)) (by decide) (by decide)) q33a q33c (g := (mkF m 67 #[.val (.ref a_1)] [(.ref q), (.long pn), (.ref a_1)])) rfl (by rw [hml]; rfl) (Steps.refl _) (argsL := []) (rest := [(.long pn), (.ref a_1)]) (lenOf own_pd3 rfl) rfl (by show 2 * 0 + _ ≤ _; exact Nat.le_of_eq rfl) (hb hby own_d15_67) (fun _ _ => ⟨rfl, e32, (by show k27 + _ ≤ _; rw [y27]; decide), (by show n27 + _ ≤ _; rw [z27]; decide)⟩)
  dsimp only [Pt.U, Pt.locs, Pt.cells, Pt.slots] at X33 l33 y33 z33 st33 hQ33
  have y33 : k33 = 0 := own_addeq y33 (congrArg (fun q => q) y27) rfl
  have z33 : n33 = 0 := own_addeq z33 (congrArg (fun q => q) z27) rfl
  obtain ⟨rfl, N33q, K33q, f34, f35, f36, f37, f38⟩ := hQ33
  have N33 : Fr n0 L33 := by rw [l33]; exact Fr.app N27 N33q
  have z39 := K33q.1
  have K33 : Keep h0 T33.heap [a_1, q, ar] := K0.trans K33q (allS (Or.inl (List.mem_of_getElem? (i := 1) rfl)) (allS (Or.inl (List.mem_of_getElem? (i := 2) rfl)) all0))
  have z40 := own_lt f34.lt
  have z41 := own_lt f35.lt
  have z42 := own_lt f36.lt
  have z43 := own_lt f37.lt
  have z44 := own_lt f38.lt
  refine own_go (fun _ k => st33.trans k) ?_
  show own_Go _ _ _ _ T33 (mkF m 70 #[.val (.ref a_1)] [(.ref x), (.long pn), (.ref a_1)])
  have f45 : Exa Z T33.heap x "com/example/fencepost/fencepost/connector/SlotConfirmation$Transaction" := (pr_E_x.keep K33q)
  obtain ⟨T46, X46, e46, st46⟩ := castY X33 hx hZ hown (hw _ (List.mem_of_getElem? (i := 46) rfl)) rfl (Ins.self f45) (g := (mkF m 70 #[.val (.ref a_1)] [(.ref x), (.long pn), (.ref a_1)])) rfl rfl (hb hby own_d15_70)
  refine own_go (fun _ k => st46 _ k) ?_
  show own_Go _ _ _ _ T46 (mkF m 73 #[.val (.ref a_1)] [(.ref x), (.long pn), (.ref a_1)])
  have f47 : Fld Z T33.heap x "com/example/fencepost/fencepost/connector/SlotConfirmation$Transaction" "commit" "J" (.long cm) := (pr_F_x_commit.keep K33q (ninS (own_ne (by omega)) (ninS (own_ne (by omega)) nin0)))
  obtain ⟨T48, X48, e48, st48⟩ := own_getFR X46 hx hZ hown (hw _ (List.mem_of_getElem? (i := 115) rfl)) e46 f47 (g := (mkF m 73 #[.val (.ref a_1)] [(.ref x), (.long pn), (.ref a_1)])) rfl rfl (hb hby own_d15_73)
  refine own_go (fun _ k => st48 _ k) ?_
  show own_Go _ _ _ _ T48 (mkF m 76 #[.val (.ref a_1)] [(.long cm), (.long pn), (.ref a_1)])
  obtain ⟨_, _, ⟨T49, L49, k49, n49⟩, -, X49, ⟨Lc49, hQ49, l49, y49, z49⟩, st49⟩ := Jvm.LawKit.callS X48 hx (y := (⟨"java/lang/Math", "max", "(JJ)J"⟩ : MethodName)) hown (mvT hZ (hw _ (List.mem_of_getElem? (i := 116) rfl))) (mvT hZ (hw _ (List.mem_of_getElem? (i := 117) rfl))) (mvT hZ (hw _ (List.mem_of_getElem? (i := 118) rfl))) (mvT hZ (hw _ (List.mem_of_getElem? (i := 119) rfl))) (by decide) (backOf (W := 1) (own_rm20 l Z a0 hw [] pn cm  T33.heap n0 (by omega) ) hZ (hw _ (List.mem_of_getElem? (i := 119) rfl)) (hw _ (List.mem_of_getElem? (i := 118) rfl)) (by decide) (by decide)) (g := (mkF m 76 #[.val (.ref a_1)] [(.long cm), (.long pn), (.ref a_1)])) rfl (by rw [hml]; rfl) (argsL := [(.long pn), (.long cm)]) (rest := [(.ref a_1)]) (lenOf own_pd8 rfl) rfl (by show 2 * 0 + _ ≤ _; exact Nat.le_of_eq rfl) (hb hby own_d15_76) (fun _ _ => ⟨rfl, e48, (by show k33 + _ ≤ _; rw [y33]; decide), (by show n33 + _ ≤ _; rw [z33]; decide)⟩)
  dsimp only [Pt.U, Pt.locs, Pt.cells, Pt.slots] at X49 l49 y49 z49 st49 hQ49
  have y49 : k49 = 0 := own_addeq y49 (congrArg (fun q => q) y33) rfl
  have z49 : n49 = 0 := own_addeq z49 (congrArg (fun q => q) z33) rfl
  obtain ⟨r50, rfl, N49q, hr_r50, e49⟩ := hQ49
  have N49 : Fr n0 L49 := by rw [l49]; exact Fr.app N33 N49q
  refine own_go (fun _ k => st49 _ k) ?_
  show own_Go _ _ _ _ T49 (mkF m 79 #[.val (.ref a_1)] [(.long r50), (.ref a_1)])
  have f51 : Exa Z T33.heap a_1 "com/example/fencepost/fencepost/connector/SlotConfirmation" := (pr_E_a_1.keep K33q)
  have f52 : Fld Z T33.heap a_1 "com/example/fencepost/fencepost/connector/SlotConfirmation" "position" "J" (.long pn) := (pr_F_a_1_position.keep K33q (ninS (own_ne (by omega)) (ninS (own_ne (by omega)) nin0)))
  obtain ⟨T53, h53, X53, e53, W53, st53⟩ := putF X49 hx hZ hown (host := "") (Or.inl (hw _ (List.mem_of_getElem? (i := 103) rfl))) Via.refl e49 f52 f51 (Or.inl (hw _ (List.mem_of_getElem? (i := 104) rfl))) (hw _ (List.mem_of_getElem? (i := 1) rfl)) (ty := .long) (by decide) rfl rfl (g := (mkF m 79 #[.val (.ref a_1)] [(.long r50), (.ref a_1)])) rfl rfl (hb hby own_d15_79)
  have z54 := W53.size
  have K53 : Keep h0 h53 [a_1, q, ar] := K33.wr W53 (Or.inl (List.mem_of_getElem? (i := 0) rfl))
  have N53 := Fr.snoc X53 N49 (by omega : n0 ≤ a_1)
  have Fw53 : Fld Z h53 a_1 "com/example/fencepost/fencepost/connector/SlotConfirmation" "position" "J" (.long r50) := Fld.same W53 f52
  refine own_go (fun _ k => st53 _ k) ?_
  show own_Go _ _ _ _ T53 (mkF m 82 #[.val (.ref a_1)] [])
  refine own_go (fun _ k => XS.goto X53.here hx rfl (pc0 := 82) (pc' := 0) rfl (hb hby own_d15_82) (by decide) (by decide) k) ?_
  show own_Go _ _ _ _ T53 (mkF m 0 #[.val (.ref a_1)] [])
  refine own_go (fun _ k => XS.aloadN X53.here hx rfl (hb hby own_d15_0) rfl rfl k) ?_
  show own_Go _ _ _ _ T53 (mkF m 1 #[.val (.ref a_1)] [(.ref a_1)])
  have f55 : Fld Z h53 a_1 "com/example/fencepost/fencepost/connector/SlotConfirmation" "unstored" "Ljava/util/ArrayDeque;" (.ref q) := ((pr_F_a_1_unstored.keep K33q (ninS (own_ne (by omega)) (ninS (own_ne (by omega)) nin0))).other W53 (Or.inr (slot_ne (Or.inr (hw _ (List.mem_of_getElem? (i := 27) rfl))) (Or.inl (hw _ (List.mem_of_getElem? (i := 104) rfl))) (by decide) (t := (.object "java/util/ArrayDeque")) (t' := .long) (by decide) (by decide))))
  obtain ⟨T56, X56, e56, st56⟩ := getF X53 hx hZ hown (host := "") (Or.inl (hw _ (List.mem_of_getElem? (i := 26) rfl))) Via.refl e53 f55 (g := (mkF m 1 #[.val (.ref a_1)] [(.ref a_1)])) rfl rfl (hb hby own_d15_1)
  refine own_go (fun _ k => st56 _ k) ?_
  show own_Go _ _ _ _ T56 (mkF m 4 #[.val (.ref a_1)] [(.ref q)])
  have f57 : Fld Z h53 q "java/util/ArrayDeque" "head" "I" (.int (2 : Int32)) := (f36.other W53 (Or.inl (own_ne (by omega))))
  have f58 : Fld Z h53 q "java/util/ArrayDeque" "tail" "I" (.int (2 : Int32)) := (f37.other W53 (Or.inl (own_ne (by omega))))
  have f60 : Exa Z h53 q "java/util/ArrayDeque" := (f34.wr W53)
  obtain ⟨cq59, kq59, q59a, q59b, q59c⟩ := isOf hZ e56 f60
  obtain ⟨_, _, ⟨T59, L59, k59, n59⟩, -, X59, ⟨Lc59, hQ59, l59, y59, z59⟩, st59⟩ := X56.virtualBack hx (y := (⟨"java/util/ArrayDeque", "isEmpty", "()Z"⟩ : MethodName)) (z := (⟨"java/util/ArrayDeque", "isEmpty", "()Z"⟩ : MethodName)) hown (mvT hZ (hw _ (List.mem_of_getElem? (i := 92) rfl))) (mvT hZ (hw _ (List.mem_of_getElem? (i := 93) rfl))) (notFace_of_selects (args := #[]) (mvT hZ (hw _ (List.mem_of_getElem? (i := 95) rfl)))) (mvT hZ (hw _ (List.mem_of_getElem? (i := 95) rfl))) (mvT hZ (hw _ (List.mem_of_getElem? (i := 94) rfl))) (by decide) (backOf (W := 0) (own_rm16_22 l Z a0 hw [] q  h53 n0 (by omega) f57 f58) hZ (hw _ (List.mem_of_getElem? (i := 96) rfl)) (hw _ (List.mem_of_getElem? (i := 11) rfl)) (by decide) (by decide)) q59a q59c (g := (mkF m 4 #[.val (.ref a_1)] [(.ref q)])) rfl (by rw [hml]; rfl) (Steps.refl _) (argsL := []) (rest := []) (lenOf own_pd7 rfl) rfl (by show 2 * 0 + _ ≤ _; exact Nat.le_of_eq rfl) (hb hby own_d15_4) (fun _ _ => ⟨rfl, e56, (by show k49 + _ ≤ _; rw [y49]; decide), (by show n49 + _ ≤ _; rw [z49]; decide)⟩)
  dsimp only [Pt.U, Pt.locs, Pt.cells, Pt.slots] at X59 l59 y59 z59 st59 hQ59
  have y59 : k59 = 0 := own_addeq y59 (congrArg (fun q => q) y49) rfl
  have z59 : n59 = 0 := own_addeq z59 (congrArg (fun q => q) z49) rfl
  obtain ⟨rfl, N59q, e59⟩ := hQ59
  have N59 : Fr n0 L59 := by rw [l59]; exact Fr.app N53 N59q
  refine own_go (fun _ k => st59.trans k) ?_
  show own_Go _ _ _ _ T59 (mkF m 7 #[.val (.ref a_1)] [(.int (1 : Int32))])
  have hc61 : ¬ ((1 : Int32) = 0) := by decide
  refine own_go (fun _ k => XS.ifYes X59.here hx rfl (pc0 := 7) (pc' := 85) rfl (hb hby own_d15_7) rfl (Jvm.Free.XT.i0_ne_t hc61) (by decide) (by decide) k) ?_
  show own_Go _ _ _ _ T59 (mkF m 85 #[.val (.ref a_1)] [])
  obtain ⟨fs, hr, hrun, hended, hW, hsame⟩ := X59.leave (v := none) (fun _ => rfl)
  refine ⟨_, _, X59.returnOut hx Bd.returns (hb hby own_d15_85) hr, hrun, hended, _, _, rfl, ?_, ⟨_, rfl⟩, hW, hsame.mono (by rw [y59]; decide) (by rw [z59]; decide)⟩
  show own_Q15_1 Z a_1 q ar g x cm pn h0 n0 _ T59.heap _
  rw [e59]
  have f63 : Fld Z h53 q "java/util/ArrayDeque" "elements" "[Ljava/lang/Object;" (.ref ar) := (f35.other W53 (Or.inl (own_ne (by omega))))
  have f64 : own_AV Z h53 ar (.object "java/lang/Object") (17 : Int32) (own_upd g 1 .null) := (f38.other W53 (own_ne (by omega)))
  exact ⟨rfl, N59, K53, f55, (by have hh : r50 = (own_rm20_ret pn cm) := (by subst hr_r50; rfl); rw [← hh]; exact Fw53), f60, f63, f57, f58, f64⟩
theorem own_d13_0 : decode prog_17_method_5_code 0 = .ok (.aload_n 0, 1) := by decide +kernel
theorem own_d13_1 : decode prog_17_method_5_code 1 = .ok (.getfield 10, 3) := by decide +kernel
theorem own_d13_4 : decode prog_17_method_5_code 4 = .ok (.invokevirtual 40, 3) := by decide +kernel
theorem own_d13_7 : decode prog_17_method_5_code 7 = .ok (.checkcast 24, 3) := by decide +kernel
theorem own_d13_10 : decode prog_17_method_5_code 10 = .ok (.lload_n 1, 1) := by decide +kernel
theorem own_d13_11 : decode prog_17_method_5_code 11 = .ok (.putfield 46, 3) := by decide +kernel
theorem own_d13_14 : decode prog_17_method_5_code 14 = .ok (.aload_n 0, 1) := by decide +kernel
theorem own_d13_15 : decode prog_17_method_5_code 15 = .ok (.invokevirtual 49, 3) := by decide +kernel
theorem own_d13_18 : decode prog_17_method_5_code 18 = .ok (.return_, 1) := by decide +kernel
theorem own_ef_own_rm13_0 (m : MethodId) (x0 : Addr) : entryFrame m #[(.ref x0), (.long (0 : Int64))] 3 = mkF m 0 #[.val (.ref x0), .val (.long (0 : Int64)), .second] [] := by first | (simp [entryFrame, mkF, argsToLocals, Value.category]; done) | rfl
def own_Q13_0 (Z : State) (a_1 : Addr) (q : Addr) (ar : Addr) (g : Nat → Value) (x : Addr) (cm : Int64) (pn : Int64) (h0 : Heap) (n0 : Nat) (v : Option Value) (h : Heap) (L : List Loc) : Prop := v = none ∧ Fr n0 L ∧ Keep h0 h [a_1, q, ar, x] ∧ Fld Z h a_1 "com/example/fencepost/fencepost/connector/SlotConfirmation" "unstored" "Ljava/util/ArrayDeque;" (.ref q) ∧ Fld Z h a_1 "com/example/fencepost/fencepost/connector/SlotConfirmation" "position" "J" (.long (own_rm20_ret pn cm)) ∧ Exa Z h q "java/util/ArrayDeque" ∧ Fld Z h q "java/util/ArrayDeque" "elements" "[Ljava/lang/Object;" (.ref ar) ∧ Fld Z h q "java/util/ArrayDeque" "head" "I" (.int (1 : Int32)) ∧ Fld Z h q "java/util/ArrayDeque" "tail" "I" (.int (1 : Int32)) ∧ own_AV Z h ar (.object "java/lang/Object") (17 : Int32) (own_upd g 0 .null)
set_option maxRecDepth 65536 in
set_option maxHeartbeats 40000000 in
theorem own_rm13_0 (l : Launch) (Z : State) (a0 : Array Value) (hw : ∀ d ∈ tables_1, d.before a0 Z = true) (ws : List Jvm.Cond) (a_1 : Addr) (q : Addr) (ar : Addr) (g : Nat → Value) (x : Addr) (cm : Int64) (pn : Int64) (h0 : Heap) (n0 : Nat) (Z0 : n0 ≤ h0.size) (pr_E_a_1 : Exa Z h0 a_1 "com/example/fencepost/fencepost/connector/SlotConfirmation") (pr_F_a_1_unstored : Fld Z h0 a_1 "com/example/fencepost/fencepost/connector/SlotConfirmation" "unstored" "Ljava/util/ArrayDeque;" (.ref q)) (pr_F_a_1_position : Fld Z h0 a_1 "com/example/fencepost/fencepost/connector/SlotConfirmation" "position" "J" (.long pn)) (pr_E_q : Exa Z h0 q "java/util/ArrayDeque") (pr_F_q_elements : Fld Z h0 q "java/util/ArrayDeque" "elements" "[Ljava/lang/Object;" (.ref ar)) (pr_F_q_head : Fld Z h0 q "java/util/ArrayDeque" "head" "I" (.int (0 : Int32))) (pr_F_q_tail : Fld Z h0 q "java/util/ArrayDeque" "tail" "I" (.int (1 : Int32))) (pr_A_ar : own_AV Z h0 ar (.object "java/lang/Object") (17 : Int32) g) (pr_E_x : Exa Z h0 x "com/example/fencepost/fencepost/connector/SlotConfirmation$Transaction") (pr_F_x_commit : Fld Z h0 x "com/example/fencepost/fencepost/connector/SlotConfirmation$Transaction" "commit" "J" (.long cm)) (pr_F_x_stored : Fld Z h0 x "com/example/fencepost/fencepost/connector/SlotConfirmation$Transaction" "stored" "J" (.long (0 : Int64))) (pr_F_x_changes : Fld Z h0 x "com/example/fencepost/fencepost/connector/SlotConfirmation$Transaction" "changes" "J" (.long (-1 : Int64))) (hg0 : g 0 = .ref x) (ho_ : own_lts [a_1, q, ar, x]) (gw_a_1 : n0 ≤ a_1) (gw_q : n0 ≤ q) (gw_ar : n0 ≤ ar) (gw_x : n0 ≤ x) :
    MetFree l (⟨"com/example/fencepost/fencepost/connector/SlotConfirmation", "ended", "(J)V"⟩ : MethodName) (head1 (Jvm.Cond.code (⟨"com/example/fencepost/fencepost/connector/SlotConfirmation", "ended", "(J)V"⟩ : MethodName) prog_17_method_5_code 3 none :: ws) ({ frames := 4, cells := 0, slots := 0, locals := 57 } : Room)) (fun a U => a = #[(.ref a_1), (.long (0 : Int64))] ∧ Z.Warmed39 U.vm ∧ U.heap = h0) (fun _ _ _ _ _ => True) (fun _ U o U' => ∃ v L, o = .returned v ∧ own_Q13_0 Z a_1 q ar g x cm pn h0 n0 v U'.heap L ∧ FrameEnd U o U' L ({ frames := 4, cells := 0, slots := 0, locals := 57 } : Room).cells ({ frames := 4, cells := 0, slots := 0, locals := 57 } : Room).slots) := by
  refine MetFree.of_bodySF (plainFor_of_name own_pn2) hisR ?_
  intro p e s m args below meth c s₁ Bd hml0 hP hK
  obtain ⟨rfl, hZ, hh⟩ := hP
  have hx := Bd.exec
  have hby := Bd.bytes
  have hml : c.maxLocals = 3 := hml0
  have hown : s.vm.findClass "com/example/fencepost/fencepost/connector/SlotConfirmation" = some m.cls := findClass_of_methodNamed Bd.named
  have hnm := (name_of_methodNamed Bd.named Bd.method).1
  have X0 : Stand p l e ({ frames := 4, cells := 0, slots := 0, locals := 57 } : Room) s m #[(.ref a_1), (.long (0 : Int64))] below meth c s₁ [] 0 0 := Stand.of_body Bd
  have e0 : s₁.heap = h0 := by rw [← hh, Bd.state]; rfl
  have N0 := Fr.nil n0
  have z0 : n0 ≤ h0.size := Z0
  have z1 := own_lt pr_E_a_1.lt
  have z2 := own_lt pr_F_a_1_unstored.lt
  have z3 := own_lt pr_F_a_1_position.lt
  have z4 := own_lt pr_E_q.lt
  have z5 := own_lt pr_F_q_elements.lt
  have z6 := own_lt pr_F_q_head.lt
  have z7 := own_lt pr_F_q_tail.lt
  have z8 := own_lt pr_A_ar.lt
  have z9 := own_lt pr_E_x.lt
  have z10 := own_lt pr_F_x_commit.lt
  have z11 := own_lt pr_F_x_stored.lt
  have z12 := own_lt pr_F_x_changes.lt
  have ho13 := ho_
  simp only [own_lts, and_true] at ho13
  have K0 : Keep h0 h0 [a_1, q, ar, x] := Keep.refl h0 _
  show own_Go p.tables e below (fun t o => t.status = .running ∧ Ended t below o ∧ ∃ v L, o = .returned v ∧ own_Q13_0 Z a_1 q ar g x cm pn h0 n0 v t.heap L ∧ FrameEnd s o t L ({ frames := 4, cells := 0, slots := 0, locals := 57 } : Room).cells ({ frames := 4, cells := 0, slots := 0, locals := 57 } : Room).slots) s₁ (entryFrame m #[(.ref a_1), (.long (0 : Int64))] 3)
  rw [own_ef_own_rm13_0 m a_1]
  show own_Go _ _ _ _ s₁ (mkF m 0 #[.val (.ref a_1), .val (.long (0 : Int64)), .second] [])
  refine own_go (fun _ k => XS.aloadN X0.here hx rfl (hb hby own_d13_0) rfl rfl k) ?_
  show own_Go _ _ _ _ s₁ (mkF m 1 #[.val (.ref a_1), .val (.long (0 : Int64)), .second] [(.ref a_1)])
  obtain ⟨T14, X14, e14, st14⟩ := getF X0 hx hZ hown (host := "") (Or.inl (hw _ (List.mem_of_getElem? (i := 26) rfl))) Via.refl e0 pr_F_a_1_unstored (g := (mkF m 1 #[.val (.ref a_1), .val (.long (0 : Int64)), .second] [(.ref a_1)])) rfl rfl (hb hby own_d13_1)
  refine own_go (fun _ k => st14 _ k) ?_
  show own_Go _ _ _ _ T14 (mkF m 4 #[.val (.ref a_1), .val (.long (0 : Int64)), .second] [(.ref q)])
  obtain ⟨cq15, kq15, q15a, q15b, q15c⟩ := isOf hZ e14 pr_E_q
  obtain ⟨_, _, ⟨T15, L15, k15, n15⟩, -, X15, ⟨Lc15, hQ15, l15, y15, z15⟩, st15⟩ := X14.virtualBack hx (y := (⟨"java/util/ArrayDeque", "getLast", "()Ljava/lang/Object;"⟩ : MethodName)) (z := (⟨"java/util/ArrayDeque", "getLast", "()Ljava/lang/Object;"⟩ : MethodName)) hown (mvT hZ (hw _ (List.mem_of_getElem? (i := 81) rfl))) (mvT hZ (hw _ (List.mem_of_getElem? (i := 82) rfl))) (notFace_of_selects (args := #[]) (mvT hZ (hw _ (List.mem_of_getElem? (i := 84) rfl)))) (mvT hZ (hw _ (List.mem_of_getElem? (i := 84) rfl))) (mvT hZ (hw _ (List.mem_of_getElem? (i := 83) rfl))) (by decide) (backOf (W := 0) (own_rm14_1 l Z a0 hw [] q ar g x h0 n0 (by omega) pr_F_q_elements pr_F_q_tail pr_A_ar hg0) hZ (hw _ (List.mem_of_getElem? (i := 85) rfl)) (hw _ (List.mem_of_getElem? (i := 11) rfl)) (by decide) (by decide)) q15a q15c (g := (mkF m 4 #[.val (.ref a_1), .val (.long (0 : Int64)), .second] [(.ref q)])) rfl (by rw [hml]; rfl) (Steps.refl _) (argsL := []) (rest := []) (lenOf own_pd3 rfl) rfl (by show 2 * 0 + _ ≤ _; exact Nat.le_of_eq rfl) (hb hby own_d13_4) (fun _ _ => ⟨rfl, e14, (by decide : 0 + 0 ≤ _), (by decide : 0 + 0 ≤ _)⟩)
  dsimp only [Pt.U, Pt.locs, Pt.cells, Pt.slots] at X15 l15 y15 z15 st15 hQ15
  have y15 : k15 = 0 := y15
  have z15 : n15 = 0 := z15
  obtain ⟨rfl, N15q, e15⟩ := hQ15
  have N15 : Fr n0 L15 := by rw [l15]; exact Fr.app N0 N15q
  refine own_go (fun _ k => st15.trans k) ?_
  show own_Go _ _ _ _ T15 (mkF m 7 #[.val (.ref a_1), .val (.long (0 : Int64)), .second] [(.ref x)])
  obtain ⟨T16, X16, e16, st16⟩ := castY X15 hx hZ hown (hw _ (List.mem_of_getElem? (i := 46) rfl)) e15 (Ins.self pr_E_x) (g := (mkF m 7 #[.val (.ref a_1), .val (.long (0 : Int64)), .second] [(.ref x)])) rfl rfl (hb hby own_d13_7)
  refine own_go (fun _ k => st16 _ k) ?_
  show own_Go _ _ _ _ T16 (mkF m 10 #[.val (.ref a_1), .val (.long (0 : Int64)), .second] [(.ref x)])
  refine own_go (fun _ k => XS.lloadN X16.here hx rfl (hb hby own_d13_10) rfl k) ?_
  show own_Go _ _ _ _ T16 (mkF m 11 #[.val (.ref a_1), .val (.long (0 : Int64)), .second] [(.long (0 : Int64)), (.ref x)])
  obtain ⟨T17, h17, X17, e17, W17, st17⟩ := own_putFR X16 hx hZ hown (hw _ (List.mem_of_getElem? (i := 87) rfl)) e16 pr_F_x_changes pr_E_x (hw _ (List.mem_of_getElem? (i := 55) rfl)) (hw _ (List.mem_of_getElem? (i := 47) rfl)) (ty := .long) (by decide) rfl rfl (g := (mkF m 11 #[.val (.ref a_1), .val (.long (0 : Int64)), .second] [(.long (0 : Int64)), (.ref x)])) rfl rfl (hb hby own_d13_11)
  have z18 := W17.size
  have K17 : Keep h0 h17 [a_1, q, ar, x] := K0.wr W17 (Or.inl (List.mem_of_getElem? (i := 3) rfl))
  have N17 := Fr.snoc X17 N15 (by omega : n0 ≤ x)
  have Fw17 : Fld Z h17 x "com/example/fencepost/fencepost/connector/SlotConfirmation$Transaction" "changes" "J" (.long (0 : Int64)) := Fld.same W17 pr_F_x_changes
  refine own_go (fun _ k => st17 _ k) ?_
  show own_Go _ _ _ _ T17 (mkF m 14 #[.val (.ref a_1), .val (.long (0 : Int64)), .second] [])
  refine own_go (fun _ k => XS.aloadN X17.here hx rfl (hb hby own_d13_14) rfl rfl k) ?_
  show own_Go _ _ _ _ T17 (mkF m 15 #[.val (.ref a_1), .val (.long (0 : Int64)), .second] [(.ref a_1)])
  have f19 : Exa Z h17 a_1 "com/example/fencepost/fencepost/connector/SlotConfirmation" := (pr_E_a_1.wr W17)
  have f20 : Fld Z h17 a_1 "com/example/fencepost/fencepost/connector/SlotConfirmation" "unstored" "Ljava/util/ArrayDeque;" (.ref q) := (pr_F_a_1_unstored.other W17 (Or.inl (own_ne (by omega))))
  have f21 : Fld Z h17 a_1 "com/example/fencepost/fencepost/connector/SlotConfirmation" "position" "J" (.long pn) := (pr_F_a_1_position.other W17 (Or.inl (own_ne (by omega))))
  have f22 : Exa Z h17 q "java/util/ArrayDeque" := (pr_E_q.wr W17)
  have f23 : Fld Z h17 q "java/util/ArrayDeque" "elements" "[Ljava/lang/Object;" (.ref ar) := (pr_F_q_elements.other W17 (Or.inl (own_ne (by omega))))
  have f24 : Fld Z h17 q "java/util/ArrayDeque" "head" "I" (.int (0 : Int32)) := (pr_F_q_head.other W17 (Or.inl (own_ne (by omega))))
  have f25 : Fld Z h17 q "java/util/ArrayDeque" "tail" "I" (.int (1 : Int32)) := (pr_F_q_tail.other W17 (Or.inl (own_ne (by omega))))
  have f26 : own_AV Z h17 ar (.object "java/lang/Object") (17 : Int32) g := (pr_A_ar.other W17 (own_ne (by omega)))
  have f27 : Exa Z h17 x "com/example/fencepost/fencepost/connector/SlotConfirmation$Transaction" := (pr_E_x.wr W17)
  have f28 : Fld Z h17 x "com/example/fencepost/fencepost/connector/SlotConfirmation$Transaction" "commit" "J" (.long cm) := (pr_F_x_commit.other W17 (Or.inr (slot_ne (Or.inr (hw _ (List.mem_of_getElem? (i := 57) rfl))) (Or.inl (hw _ (List.mem_of_getElem? (i := 55) rfl))) (by decide) (t := .long) (t' := .long) (by decide) (by decide))))
  have f29 : Fld Z h17 x "com/example/fencepost/fencepost/connector/SlotConfirmation$Transaction" "stored" "J" (.long (0 : Int64)) := (pr_F_x_stored.other W17 (Or.inr (slot_ne (Or.inl (hw _ (List.mem_of_getElem? (i := 59) rfl))) (Or.inl (hw _ (List.mem_of_getElem? (i := 55) rfl))) (by decide) (t := .long) (t' := .long) (by decide) (by decide))))
  obtain ⟨cq30, q30, q30'⟩ := (id f19).cell
  obtain ⟨_, _, ⟨T30, L30, k30, n30⟩, -, X30, ⟨Lc30, hQ30, l30, y30, z30⟩, st30⟩ := X17.privateBack hx (y := (⟨"com/example/fencepost/fencepost/connector/SlotConfirmation", "settle", "()V"⟩ : MethodName)) hown (mvT hZ (hw _ (List.mem_of_getElem? (i := 88) rfl))) (mvT hZ (hw _ (List.mem_of_getElem? (i := 89) rfl))) (own_selfsel hZ (hw _ (List.mem_of_getElem? (i := 1) rfl)) (hw _ (List.mem_of_getElem? (i := 89) rfl)) (hw _ (List.mem_of_getElem? (i := 90) rfl)) (by decide)) (Cond.privateMethod_at (mvP hZ (hw _ (List.mem_of_getElem? (i := 90) rfl)) (args := #[]))) (mvT hZ (hw _ (List.mem_of_getElem? (i := 91) rfl))) (by decide) (backOf (W := 0) (own_rm15_0 l Z a0 hw [] a_1 q ar g x cm pn h17 n0 (by omega) f19 f20 f21 f22 f23 f24 f25 f26 f27 f28 f29 Fw17 hg0 (by simp only [own_lts, and_true]; omega) (by omega) (by omega) (by omega)) hZ (hw _ (List.mem_of_getElem? (i := 91) rfl)) (hw _ (List.mem_of_getElem? (i := 2) rfl)) (by decide) (by decide)) (g := (mkF m 15 #[.val (.ref a_1), .val (.long (0 : Int64)), .second] [(.ref a_1)])) rfl (by rw [hml]; rfl) (Steps.refl _) (a := a_1) (by rw [e17]; exact q30) q30' (argsL := []) (rest := []) (lenOf own_pd4 rfl) rfl (by show 2 * 0 + _ ≤ _; exact Nat.le_of_eq rfl) (hb hby own_d13_15) (fun _ _ => ⟨rfl, e17, (by show k15 + _ ≤ _; rw [y15]; decide), (by show n15 + _ ≤ _; rw [z15]; decide)⟩)
  dsimp only [Pt.U, Pt.locs, Pt.cells, Pt.slots] at X30 l30 y30 z30 st30 hQ30
  have y30 : k30 = 0 := own_addeq y30 (congrArg (fun q => q) y15) rfl
  have z30 : n30 = 0 := own_addeq z30 (congrArg (fun q => q) z15) rfl
  obtain ⟨rfl, N30q, K30q, f31, f32, f33, f34, f35, f36, f37⟩ := hQ30
  have N30 : Fr n0 L30 := by rw [l30]; exact Fr.app N17 N30q
  have z38 := K30q.1
  have K30 : Keep h0 T30.heap [a_1, q, ar, x] := K17.trans K30q (allS (Or.inl (List.mem_of_getElem? (i := 0) rfl)) (allS (Or.inl (List.mem_of_getElem? (i := 1) rfl)) (allS (Or.inl (List.mem_of_getElem? (i := 2) rfl)) all0)))
  have z39 := own_lt f31.lt
  obtain ⟨v40, hdv40⟩ : ∃ z : Int64, z = (own_rm20_ret pn cm) := ⟨_, rfl⟩
  rw [← hdv40] at f32
  have z41 := own_lt f32.lt
  have z42 := own_lt f33.lt
  have z43 := own_lt f34.lt
  have z44 := own_lt f35.lt
  have z45 := own_lt f36.lt
  have z46 := own_lt f37.lt
  refine own_go (fun _ k => st30.trans k) ?_
  show own_Go _ _ _ _ T30 (mkF m 18 #[.val (.ref a_1), .val (.long (0 : Int64)), .second] [])
  obtain ⟨fs, hr, hrun, hended, hW, hsame⟩ := X30.leave (v := none) (fun _ => rfl)
  refine ⟨_, _, X30.returnOut hx Bd.returns (hb hby own_d13_18) hr, hrun, hended, _, _, rfl, ?_, ⟨_, rfl⟩, hW, hsame.mono (by rw [y30]; decide) (by rw [z30]; decide)⟩
  exact ⟨rfl, N30, K30, f31, (by have hh : v40 = (own_rm20_ret pn cm) := (by subst hdv40; rfl); rw [← hh]; exact f32), f33, f34, f35, f36, f37⟩
theorem own_ef_own_rm13_1 (m : MethodId) (x0 : Addr) : entryFrame m #[(.ref x0), (.long (0 : Int64))] 3 = mkF m 0 #[.val (.ref x0), .val (.long (0 : Int64)), .second] [] := by first | (simp [entryFrame, mkF, argsToLocals, Value.category]; done) | rfl
def own_Q13_1 (Z : State) (a_1 : Addr) (q : Addr) (ar : Addr) (g : Nat → Value) (x : Addr) (cm : Int64) (pn : Int64) (h0 : Heap) (n0 : Nat) (v : Option Value) (h : Heap) (L : List Loc) : Prop := v = none ∧ Fr n0 L ∧ Keep h0 h [a_1, q, ar, x] ∧ Fld Z h a_1 "com/example/fencepost/fencepost/connector/SlotConfirmation" "unstored" "Ljava/util/ArrayDeque;" (.ref q) ∧ Fld Z h a_1 "com/example/fencepost/fencepost/connector/SlotConfirmation" "position" "J" (.long (own_rm20_ret pn cm)) ∧ Exa Z h q "java/util/ArrayDeque" ∧ Fld Z h q "java/util/ArrayDeque" "elements" "[Ljava/lang/Object;" (.ref ar) ∧ Fld Z h q "java/util/ArrayDeque" "head" "I" (.int (2 : Int32)) ∧ Fld Z h q "java/util/ArrayDeque" "tail" "I" (.int (2 : Int32)) ∧ own_AV Z h ar (.object "java/lang/Object") (17 : Int32) (own_upd g 1 .null)
set_option maxRecDepth 65536 in
set_option maxHeartbeats 40000000 in
theorem own_rm13_1 (l : Launch) (Z : State) (a0 : Array Value) (hw : ∀ d ∈ tables_1, d.before a0 Z = true) (ws : List Jvm.Cond) (a_1 : Addr) (q : Addr) (ar : Addr) (g : Nat → Value) (x : Addr) (cm : Int64) (pn : Int64) (h0 : Heap) (n0 : Nat) (Z0 : n0 ≤ h0.size) (pr_E_a_1 : Exa Z h0 a_1 "com/example/fencepost/fencepost/connector/SlotConfirmation") (pr_F_a_1_unstored : Fld Z h0 a_1 "com/example/fencepost/fencepost/connector/SlotConfirmation" "unstored" "Ljava/util/ArrayDeque;" (.ref q)) (pr_F_a_1_position : Fld Z h0 a_1 "com/example/fencepost/fencepost/connector/SlotConfirmation" "position" "J" (.long pn)) (pr_E_q : Exa Z h0 q "java/util/ArrayDeque") (pr_F_q_elements : Fld Z h0 q "java/util/ArrayDeque" "elements" "[Ljava/lang/Object;" (.ref ar)) (pr_F_q_head : Fld Z h0 q "java/util/ArrayDeque" "head" "I" (.int (1 : Int32))) (pr_F_q_tail : Fld Z h0 q "java/util/ArrayDeque" "tail" "I" (.int (2 : Int32))) (pr_A_ar : own_AV Z h0 ar (.object "java/lang/Object") (17 : Int32) g) (pr_E_x : Exa Z h0 x "com/example/fencepost/fencepost/connector/SlotConfirmation$Transaction") (pr_F_x_commit : Fld Z h0 x "com/example/fencepost/fencepost/connector/SlotConfirmation$Transaction" "commit" "J" (.long cm)) (pr_F_x_stored : Fld Z h0 x "com/example/fencepost/fencepost/connector/SlotConfirmation$Transaction" "stored" "J" (.long (0 : Int64))) (pr_F_x_changes : Fld Z h0 x "com/example/fencepost/fencepost/connector/SlotConfirmation$Transaction" "changes" "J" (.long (-1 : Int64))) (hg1 : g 1 = .ref x) (ho_ : own_lts [a_1, q, ar, x]) (gw_a_1 : n0 ≤ a_1) (gw_q : n0 ≤ q) (gw_ar : n0 ≤ ar) (gw_x : n0 ≤ x) :
    MetFree l (⟨"com/example/fencepost/fencepost/connector/SlotConfirmation", "ended", "(J)V"⟩ : MethodName) (head1 (Jvm.Cond.code (⟨"com/example/fencepost/fencepost/connector/SlotConfirmation", "ended", "(J)V"⟩ : MethodName) prog_17_method_5_code 3 none :: ws) ({ frames := 4, cells := 0, slots := 0, locals := 57 } : Room)) (fun a U => a = #[(.ref a_1), (.long (0 : Int64))] ∧ Z.Warmed39 U.vm ∧ U.heap = h0) (fun _ _ _ _ _ => True) (fun _ U o U' => ∃ v L, o = .returned v ∧ own_Q13_1 Z a_1 q ar g x cm pn h0 n0 v U'.heap L ∧ FrameEnd U o U' L ({ frames := 4, cells := 0, slots := 0, locals := 57 } : Room).cells ({ frames := 4, cells := 0, slots := 0, locals := 57 } : Room).slots) := by
  refine MetFree.of_bodySF (plainFor_of_name own_pn2) hisR ?_
  intro p e s m args below meth c s₁ Bd hml0 hP hK
  obtain ⟨rfl, hZ, hh⟩ := hP
  have hx := Bd.exec
  have hby := Bd.bytes
  have hml : c.maxLocals = 3 := hml0
  have hown : s.vm.findClass "com/example/fencepost/fencepost/connector/SlotConfirmation" = some m.cls := findClass_of_methodNamed Bd.named
  have hnm := (name_of_methodNamed Bd.named Bd.method).1
  have X0 : Stand p l e ({ frames := 4, cells := 0, slots := 0, locals := 57 } : Room) s m #[(.ref a_1), (.long (0 : Int64))] below meth c s₁ [] 0 0 := Stand.of_body Bd
  have e0 : s₁.heap = h0 := by rw [← hh, Bd.state]; rfl
  have N0 := Fr.nil n0
  have z0 : n0 ≤ h0.size := Z0
  have z1 := own_lt pr_E_a_1.lt
  have z2 := own_lt pr_F_a_1_unstored.lt
  have z3 := own_lt pr_F_a_1_position.lt
  have z4 := own_lt pr_E_q.lt
  have z5 := own_lt pr_F_q_elements.lt
  have z6 := own_lt pr_F_q_head.lt
  have z7 := own_lt pr_F_q_tail.lt
  have z8 := own_lt pr_A_ar.lt
  have z9 := own_lt pr_E_x.lt
  have z10 := own_lt pr_F_x_commit.lt
  have z11 := own_lt pr_F_x_stored.lt
  have z12 := own_lt pr_F_x_changes.lt
  have ho13 := ho_
  simp only [own_lts, and_true] at ho13
  have K0 : Keep h0 h0 [a_1, q, ar, x] := Keep.refl h0 _
  show own_Go p.tables e below (fun t o => t.status = .running ∧ Ended t below o ∧ ∃ v L, o = .returned v ∧ own_Q13_1 Z a_1 q ar g x cm pn h0 n0 v t.heap L ∧ FrameEnd s o t L ({ frames := 4, cells := 0, slots := 0, locals := 57 } : Room).cells ({ frames := 4, cells := 0, slots := 0, locals := 57 } : Room).slots) s₁ (entryFrame m #[(.ref a_1), (.long (0 : Int64))] 3)
  rw [own_ef_own_rm13_1 m a_1]
  show own_Go _ _ _ _ s₁ (mkF m 0 #[.val (.ref a_1), .val (.long (0 : Int64)), .second] [])
  refine own_go (fun _ k => XS.aloadN X0.here hx rfl (hb hby own_d13_0) rfl rfl k) ?_
  show own_Go _ _ _ _ s₁ (mkF m 1 #[.val (.ref a_1), .val (.long (0 : Int64)), .second] [(.ref a_1)])
  obtain ⟨T14, X14, e14, st14⟩ := getF X0 hx hZ hown (host := "") (Or.inl (hw _ (List.mem_of_getElem? (i := 26) rfl))) Via.refl e0 pr_F_a_1_unstored (g := (mkF m 1 #[.val (.ref a_1), .val (.long (0 : Int64)), .second] [(.ref a_1)])) rfl rfl (hb hby own_d13_1)
  refine own_go (fun _ k => st14 _ k) ?_
  show own_Go _ _ _ _ T14 (mkF m 4 #[.val (.ref a_1), .val (.long (0 : Int64)), .second] [(.ref q)])
  obtain ⟨cq15, kq15, q15a, q15b, q15c⟩ := isOf hZ e14 pr_E_q
  obtain ⟨_, _, ⟨T15, L15, k15, n15⟩, -, X15, ⟨Lc15, hQ15, l15, y15, z15⟩, st15⟩ := X14.virtualBack hx (y := (⟨"java/util/ArrayDeque", "getLast", "()Ljava/lang/Object;"⟩ : MethodName)) (z := (⟨"java/util/ArrayDeque", "getLast", "()Ljava/lang/Object;"⟩ : MethodName)) hown (mvT hZ (hw _ (List.mem_of_getElem? (i := 81) rfl))) (mvT hZ (hw _ (List.mem_of_getElem? (i := 82) rfl))) (notFace_of_selects (args := #[]) (mvT hZ (hw _ (List.mem_of_getElem? (i := 84) rfl)))) (mvT hZ (hw _ (List.mem_of_getElem? (i := 84) rfl))) (mvT hZ (hw _ (List.mem_of_getElem? (i := 83) rfl))) (by decide) (backOf (W := 0) (own_rm14_2 l Z a0 hw [] q ar g x h0 n0 (by omega) pr_F_q_elements pr_F_q_tail pr_A_ar hg1) hZ (hw _ (List.mem_of_getElem? (i := 85) rfl)) (hw _ (List.mem_of_getElem? (i := 11) rfl)) (by decide) (by decide)) q15a q15c (g := (mkF m 4 #[.val (.ref a_1), .val (.long (0 : Int64)), .second] [(.ref q)])) rfl (by rw [hml]; rfl) (Steps.refl _) (argsL := []) (rest := []) (lenOf own_pd3 rfl) rfl (by show 2 * 0 + _ ≤ _; exact Nat.le_of_eq rfl) (hb hby own_d13_4) (fun _ _ => ⟨rfl, e14, (by decide : 0 + 0 ≤ _), (by decide : 0 + 0 ≤ _)⟩)
  dsimp only [Pt.U, Pt.locs, Pt.cells, Pt.slots] at X15 l15 y15 z15 st15 hQ15
  have y15 : k15 = 0 := y15
  have z15 : n15 = 0 := z15
  obtain ⟨rfl, N15q, e15⟩ := hQ15
  have N15 : Fr n0 L15 := by rw [l15]; exact Fr.app N0 N15q
  refine own_go (fun _ k => st15.trans k) ?_
  show own_Go _ _ _ _ T15 (mkF m 7 #[.val (.ref a_1), .val (.long (0 : Int64)), .second] [(.ref x)])
  obtain ⟨T16, X16, e16, st16⟩ := castY X15 hx hZ hown (hw _ (List.mem_of_getElem? (i := 46) rfl)) e15 (Ins.self pr_E_x) (g := (mkF m 7 #[.val (.ref a_1), .val (.long (0 : Int64)), .second] [(.ref x)])) rfl rfl (hb hby own_d13_7)
  refine own_go (fun _ k => st16 _ k) ?_
  show own_Go _ _ _ _ T16 (mkF m 10 #[.val (.ref a_1), .val (.long (0 : Int64)), .second] [(.ref x)])
  refine own_go (fun _ k => XS.lloadN X16.here hx rfl (hb hby own_d13_10) rfl k) ?_
  show own_Go _ _ _ _ T16 (mkF m 11 #[.val (.ref a_1), .val (.long (0 : Int64)), .second] [(.long (0 : Int64)), (.ref x)])
  obtain ⟨T17, h17, X17, e17, W17, st17⟩ := own_putFR X16 hx hZ hown (hw _ (List.mem_of_getElem? (i := 87) rfl)) e16 pr_F_x_changes pr_E_x (hw _ (List.mem_of_getElem? (i := 55) rfl)) (hw _ (List.mem_of_getElem? (i := 47) rfl)) (ty := .long) (by decide) rfl rfl (g := (mkF m 11 #[.val (.ref a_1), .val (.long (0 : Int64)), .second] [(.long (0 : Int64)), (.ref x)])) rfl rfl (hb hby own_d13_11)
  have z18 := W17.size
  have K17 : Keep h0 h17 [a_1, q, ar, x] := K0.wr W17 (Or.inl (List.mem_of_getElem? (i := 3) rfl))
  have N17 := Fr.snoc X17 N15 (by omega : n0 ≤ x)
  have Fw17 : Fld Z h17 x "com/example/fencepost/fencepost/connector/SlotConfirmation$Transaction" "changes" "J" (.long (0 : Int64)) := Fld.same W17 pr_F_x_changes
  refine own_go (fun _ k => st17 _ k) ?_
  show own_Go _ _ _ _ T17 (mkF m 14 #[.val (.ref a_1), .val (.long (0 : Int64)), .second] [])
  refine own_go (fun _ k => XS.aloadN X17.here hx rfl (hb hby own_d13_14) rfl rfl k) ?_
  show own_Go _ _ _ _ T17 (mkF m 15 #[.val (.ref a_1), .val (.long (0 : Int64)), .second] [(.ref a_1)])
  have f19 : Exa Z h17 a_1 "com/example/fencepost/fencepost/connector/SlotConfirmation" := (pr_E_a_1.wr W17)
  have f20 : Fld Z h17 a_1 "com/example/fencepost/fencepost/connector/SlotConfirmation" "unstored" "Ljava/util/ArrayDeque;" (.ref q) := (pr_F_a_1_unstored.other W17 (Or.inl (own_ne (by omega))))
  have f21 : Fld Z h17 a_1 "com/example/fencepost/fencepost/connector/SlotConfirmation" "position" "J" (.long pn) := (pr_F_a_1_position.other W17 (Or.inl (own_ne (by omega))))
  have f22 : Exa Z h17 q "java/util/ArrayDeque" := (pr_E_q.wr W17)
  have f23 : Fld Z h17 q "java/util/ArrayDeque" "elements" "[Ljava/lang/Object;" (.ref ar) := (pr_F_q_elements.other W17 (Or.inl (own_ne (by omega))))
  have f24 : Fld Z h17 q "java/util/ArrayDeque" "head" "I" (.int (1 : Int32)) := (pr_F_q_head.other W17 (Or.inl (own_ne (by omega))))
  have f25 : Fld Z h17 q "java/util/ArrayDeque" "tail" "I" (.int (2 : Int32)) := (pr_F_q_tail.other W17 (Or.inl (own_ne (by omega))))
  have f26 : own_AV Z h17 ar (.object "java/lang/Object") (17 : Int32) g := (pr_A_ar.other W17 (own_ne (by omega)))
  have f27 : Exa Z h17 x "com/example/fencepost/fencepost/connector/SlotConfirmation$Transaction" := (pr_E_x.wr W17)
  have f28 : Fld Z h17 x "com/example/fencepost/fencepost/connector/SlotConfirmation$Transaction" "commit" "J" (.long cm) := (pr_F_x_commit.other W17 (Or.inr (slot_ne (Or.inr (hw _ (List.mem_of_getElem? (i := 57) rfl))) (Or.inl (hw _ (List.mem_of_getElem? (i := 55) rfl))) (by decide) (t := .long) (t' := .long) (by decide) (by decide))))
  have f29 : Fld Z h17 x "com/example/fencepost/fencepost/connector/SlotConfirmation$Transaction" "stored" "J" (.long (0 : Int64)) := (pr_F_x_stored.other W17 (Or.inr (slot_ne (Or.inl (hw _ (List.mem_of_getElem? (i := 59) rfl))) (Or.inl (hw _ (List.mem_of_getElem? (i := 55) rfl))) (by decide) (t := .long) (t' := .long) (by decide) (by decide))))
  obtain ⟨cq30, q30, q30'⟩ := (id f19).cell
  obtain ⟨_, _, ⟨T30, L30, k30, n30⟩, -, X30, ⟨Lc30, hQ30, l30, y30, z30⟩, st30⟩ := X17.privateBack hx (y := (⟨"com/example/fencepost/fencepost/connector/SlotConfirmation", "settle", "()V"⟩ : MethodName)) hown (mvT hZ (hw _ (List.mem_of_getElem? (i := 88) rfl))) (mvT hZ (hw _ (List.mem_of_getElem? (i := 89) rfl))) (own_selfsel hZ (hw _ (List.mem_of_getElem? (i := 1) rfl)) (hw _ (List.mem_of_getElem? (i := 89) rfl)) (hw _ (List.mem_of_getElem? (i := 90) rfl)) (by decide)) (Cond.privateMethod_at (mvP hZ (hw _ (List.mem_of_getElem? (i := 90) rfl)) (args := #[]))) (mvT hZ (hw _ (List.mem_of_getElem? (i := 91) rfl))) (by decide) (backOf (W := 0) (own_rm15_1 l Z a0 hw [] a_1 q ar g x cm pn h17 n0 (by omega) f19 f20 f21 f22 f23 f24 f25 f26 f27 f28 f29 Fw17 hg1 (by simp only [own_lts, and_true]; omega) (by omega) (by omega) (by omega)) hZ (hw _ (List.mem_of_getElem? (i := 91) rfl)) (hw _ (List.mem_of_getElem? (i := 2) rfl)) (by decide) (by decide)) (g := (mkF m 15 #[.val (.ref a_1), .val (.long (0 : Int64)), .second] [(.ref a_1)])) rfl (by rw [hml]; rfl) (Steps.refl _) (a := a_1) (by rw [e17]; exact q30) q30' (argsL := []) (rest := []) (lenOf own_pd4 rfl) rfl (by show 2 * 0 + _ ≤ _; exact Nat.le_of_eq rfl) (hb hby own_d13_15) (fun _ _ => ⟨rfl, e17, (by show k15 + _ ≤ _; rw [y15]; decide), (by show n15 + _ ≤ _; rw [z15]; decide)⟩)
  dsimp only [Pt.U, Pt.locs, Pt.cells, Pt.slots] at X30 l30 y30 z30 st30 hQ30
  have y30 : k30 = 0 := own_addeq y30 (congrArg (fun q => q) y15) rfl
  have z30 : n30 = 0 := own_addeq z30 (congrArg (fun q => q) z15) rfl
  obtain ⟨rfl, N30q, K30q, f31, f32, f33, f34, f35, f36, f37⟩ := hQ30
  have N30 : Fr n0 L30 := by rw [l30]; exact Fr.app N17 N30q
  have z38 := K30q.1
  have K30 : Keep h0 T30.heap [a_1, q, ar, x] := K17.trans K30q (allS (Or.inl (List.mem_of_getElem? (i := 0) rfl)) (allS (Or.inl (List.mem_of_getElem? (i := 1) rfl)) (allS (Or.inl (List.mem_of_getElem? (i := 2) rfl)) all0)))
  have z39 := own_lt f31.lt
  obtain ⟨v40, hdv40⟩ : ∃ z : Int64, z = (own_rm20_ret pn cm) := ⟨_, rfl⟩
  rw [← hdv40] at f32
  have z41 := own_lt f32.lt
  have z42 := own_lt f33.lt
  have z43 := own_lt f34.lt
  have z44 := own_lt f35.lt
  have z45 := own_lt f36.lt
  have z46 := own_lt f37.lt
  refine own_go (fun _ k => st30.trans k) ?_
  show own_Go _ _ _ _ T30 (mkF m 18 #[.val (.ref a_1), .val (.long (0 : Int64)), .second] [])
  obtain ⟨fs, hr, hrun, hended, hW, hsame⟩ := X30.leave (v := none) (fun _ => rfl)
  refine ⟨_, _, X30.returnOut hx Bd.returns (hb hby own_d13_18) hr, hrun, hended, _, _, rfl, ?_, ⟨_, rfl⟩, hW, hsame.mono (by rw [y30]; decide) (by rw [z30]; decide)⟩
  exact ⟨rfl, N30, K30, f31, (by have hh : v40 = (own_rm20_ret pn cm) := (by subst hdv40; rfl); rw [← hh]; exact f32), f33, f34, f35, f36, f37⟩
theorem own_d23_0 : decode prog_17_method_7_code 0 = .ok (.aload_n 0, 1) := by decide +kernel
theorem own_d23_1 : decode prog_17_method_7_code 1 = .ok (.getfield 10, 3) := by decide +kernel
theorem own_d23_4 : decode prog_17_method_7_code 4 = .ok (.invokevirtual 36, 3) := by decide +kernel
theorem own_d23_7 : decode prog_17_method_7_code 7 = .ok (.ifCond .eq 15, 3) := by decide +kernel
theorem own_d23_10 : decode prog_17_method_7_code 10 = .ok (.aload_n 0, 1) := by decide +kernel
theorem own_d23_11 : decode prog_17_method_7_code 11 = .ok (.aload_n 0, 1) := by decide +kernel
theorem own_d23_12 : decode prog_17_method_7_code 12 = .ok (.getfield 16, 3) := by decide +kernel
theorem own_d23_15 : decode prog_17_method_7_code 15 = .ok (.lload_n 1, 1) := by decide +kernel
theorem own_d23_16 : decode prog_17_method_7_code 16 = .ok (.invokestatic 58, 3) := by decide +kernel
theorem own_d23_19 : decode prog_17_method_7_code 19 = .ok (.putfield 16, 3) := by decide +kernel
theorem own_d23_22 : decode prog_17_method_7_code 22 = .ok (.return_, 1) := by decide +kernel
theorem own_ef_own_rm23_e (m : MethodId) (x0 : Addr) (x1 : Int64) : entryFrame m #[(.ref x0), (.long x1)] 3 = mkF m 0 #[.val (.ref x0), .val (.long x1), .second] [] := by first | (simp [entryFrame, mkF, argsToLocals, Value.category]; done) | rfl
def own_Q23_e (Z : State) (a_1 : Addr) (q_2 : Int64) (q : Addr) (pn : Int64) (h0 : Heap) (n0 : Nat) (v : Option Value) (h : Heap) (L : List Loc) : Prop := v = none ∧ Fr n0 L ∧ Keep h0 h [a_1] ∧ Fld Z h a_1 "com/example/fencepost/fencepost/connector/SlotConfirmation" "unstored" "Ljava/util/ArrayDeque;" (.ref q) ∧ Fld Z h a_1 "com/example/fencepost/fencepost/connector/SlotConfirmation" "position" "J" (.long (own_rm20_ret pn q_2))
set_option maxRecDepth 65536 in
set_option maxHeartbeats 40000000 in
theorem own_rm23_e (l : Launch) (Z : State) (a0 : Array Value) (hw : ∀ d ∈ tables_1, d.before a0 Z = true) (ws : List Jvm.Cond) (a_1 : Addr) (q_2 : Int64) (q : Addr) (pn : Int64) (h0 : Heap) (n0 : Nat) (Z0 : n0 ≤ h0.size) (pr_E_a_1 : Exa Z h0 a_1 "com/example/fencepost/fencepost/connector/SlotConfirmation") (pr_F_a_1_unstored : Fld Z h0 a_1 "com/example/fencepost/fencepost/connector/SlotConfirmation" "unstored" "Ljava/util/ArrayDeque;" (.ref q)) (pr_F_a_1_position : Fld Z h0 a_1 "com/example/fencepost/fencepost/connector/SlotConfirmation" "position" "J" (.long pn)) (pr_E_q : Exa Z h0 q "java/util/ArrayDeque") (pr_F_q_head : Fld Z h0 q "java/util/ArrayDeque" "head" "I" (.int (1 : Int32))) (pr_F_q_tail : Fld Z h0 q "java/util/ArrayDeque" "tail" "I" (.int (1 : Int32))) (gw_a_1 : n0 ≤ a_1) :
    MetFree l (⟨"com/example/fencepost/fencepost/connector/SlotConfirmation", "idle", "(J)V"⟩ : MethodName) (head1 (Jvm.Cond.code (⟨"com/example/fencepost/fencepost/connector/SlotConfirmation", "idle", "(J)V"⟩ : MethodName) prog_17_method_7_code 3 none :: ws) ({ frames := 1, cells := 0, slots := 0, locals := 16 } : Room)) (fun a U => a = #[(.ref a_1), (.long q_2)] ∧ Z.Warmed39 U.vm ∧ U.heap = h0) (fun _ _ _ _ _ => True) (fun _ U o U' => ∃ v L, o = .returned v ∧ own_Q23_e Z a_1 q_2 q pn h0 n0 v U'.heap L ∧ FrameEnd U o U' L ({ frames := 1, cells := 0, slots := 0, locals := 16 } : Room).cells ({ frames := 1, cells := 0, slots := 0, locals := 16 } : Room).slots) := by
  refine MetFree.of_bodySF (plainFor_of_name own_pn2) hisR ?_
  intro p e s m args below meth c s₁ Bd hml0 hP hK
  obtain ⟨rfl, hZ, hh⟩ := hP
  have hx := Bd.exec
  have hby := Bd.bytes
  have hml : c.maxLocals = 3 := hml0
  have hown : s.vm.findClass "com/example/fencepost/fencepost/connector/SlotConfirmation" = some m.cls := findClass_of_methodNamed Bd.named
  have hnm := (name_of_methodNamed Bd.named Bd.method).1
  have X0 : Stand p l e ({ frames := 1, cells := 0, slots := 0, locals := 16 } : Room) s m #[(.ref a_1), (.long q_2)] below meth c s₁ [] 0 0 := Stand.of_body Bd
  have e0 : s₁.heap = h0 := by rw [← hh, Bd.state]; rfl
  have N0 := Fr.nil n0
  have z0 : n0 ≤ h0.size := Z0
  have z1 := own_lt pr_E_a_1.lt
  have z2 := own_lt pr_F_a_1_unstored.lt
  have z3 := own_lt pr_F_a_1_position.lt
  have z4 := own_lt pr_E_q.lt
  have z5 := own_lt pr_F_q_head.lt
  have z6 := own_lt pr_F_q_tail.lt
  have K0 : Keep h0 h0 [a_1] := Keep.refl h0 _
  show own_Go p.tables e below (fun t o => t.status = .running ∧ Ended t below o ∧ ∃ v L, o = .returned v ∧ own_Q23_e Z a_1 q_2 q pn h0 n0 v t.heap L ∧ FrameEnd s o t L ({ frames := 1, cells := 0, slots := 0, locals := 16 } : Room).cells ({ frames := 1, cells := 0, slots := 0, locals := 16 } : Room).slots) s₁ (entryFrame m #[(.ref a_1), (.long q_2)] 3)
  rw [own_ef_own_rm23_e m a_1 q_2]
  show own_Go _ _ _ _ s₁ (mkF m 0 #[.val (.ref a_1), .val (.long q_2), .second] [])
  refine own_go (fun _ k => XS.aloadN X0.here hx rfl (hb hby own_d23_0) rfl rfl k) ?_
  show own_Go _ _ _ _ s₁ (mkF m 1 #[.val (.ref a_1), .val (.long q_2), .second] [(.ref a_1)])
  obtain ⟨T7, X7, e7, st7⟩ := getF X0 hx hZ hown (host := "") (Or.inl (hw _ (List.mem_of_getElem? (i := 26) rfl))) Via.refl e0 pr_F_a_1_unstored (g := (mkF m 1 #[.val (.ref a_1), .val (.long q_2), .second] [(.ref a_1)])) rfl rfl (hb hby own_d23_1)
  refine own_go (fun _ k => st7 _ k) ?_
  show own_Go _ _ _ _ T7 (mkF m 4 #[.val (.ref a_1), .val (.long q_2), .second] [(.ref q)])
  obtain ⟨cq8, kq8, q8a, q8b, q8c⟩ := isOf hZ e7 pr_E_q
  obtain ⟨_, _, ⟨T8, L8, k8, n8⟩, -, X8, ⟨Lc8, hQ8, l8, y8, z8⟩, st8⟩ := X7.virtualBack hx (y := (⟨"java/util/ArrayDeque", "isEmpty", "()Z"⟩ : MethodName)) (z := (⟨"java/util/ArrayDeque", "isEmpty", "()Z"⟩ : MethodName)) hown (mvT hZ (hw _ (List.mem_of_getElem? (i := 92) rfl))) (mvT hZ (hw _ (List.mem_of_getElem? (i := 93) rfl))) (notFace_of_selects (args := #[]) (mvT hZ (hw _ (List.mem_of_getElem? (i := 95) rfl)))) (mvT hZ (hw _ (List.mem_of_getElem? (i := 95) rfl))) (mvT hZ (hw _ (List.mem_of_getElem? (i := 94) rfl))) (by decide) (backOf (W := 0) (own_rm16_11 l Z a0 hw [] q  h0 n0 (by omega) pr_F_q_head pr_F_q_tail) hZ (hw _ (List.mem_of_getElem? (i := 96) rfl)) (hw _ (List.mem_of_getElem? (i := 11) rfl)) (by decide) (by decide)) q8a q8c (g := (mkF m 4 #[.val (.ref a_1), .val (.long q_2), .second] [(.ref q)])) rfl (by rw [hml]; rfl) (Steps.refl _) (argsL := []) (rest := []) (lenOf own_pd7 rfl) rfl (by show 2 * 0 + _ ≤ _; exact Nat.le_of_eq rfl) (hb hby own_d23_4) (fun _ _ => ⟨rfl, e7, (by decide : 0 + 0 ≤ _), (by decide : 0 + 0 ≤ _)⟩)
  dsimp only [Pt.U, Pt.locs, Pt.cells, Pt.slots] at X8 l8 y8 z8 st8 hQ8
  have y8 : k8 = 0 := y8
  have z8 : n8 = 0 := z8
  obtain ⟨rfl, N8q, e8⟩ := hQ8
  have N8 : Fr n0 L8 := by rw [l8]; exact Fr.app N0 N8q
  refine own_go (fun _ k => st8.trans k) ?_
  show own_Go _ _ _ _ T8 (mkF m 7 #[.val (.ref a_1), .val (.long q_2), .second] [(.int (1 : Int32))])
  have hc9 : ¬ ((1 : Int32) = 0) := by decide
  refine own_go (fun _ k => XS.ifNo X8.here hx rfl (hb hby own_d23_7) rfl (Jvm.Free.XT.i0_eq_f hc9) k) ?_
  show own_Go _ _ _ _ T8 (mkF m 10 #[.val (.ref a_1), .val (.long q_2), .second] [])
  refine own_go (fun _ k => XS.aloadN X8.here hx rfl (hb hby own_d23_10) rfl rfl k) ?_
  show own_Go _ _ _ _ T8 (mkF m 11 #[.val (.ref a_1), .val (.long q_2), .second] [(.ref a_1)])
  refine own_go (fun _ k => XS.aloadN X8.here hx rfl (hb hby own_d23_11) rfl rfl k) ?_
  show own_Go _ _ _ _ T8 (mkF m 12 #[.val (.ref a_1), .val (.long q_2), .second] [(.ref a_1), (.ref a_1)])
  obtain ⟨T10, X10, e10, st10⟩ := getF X8 hx hZ hown (host := "") (Or.inl (hw _ (List.mem_of_getElem? (i := 103) rfl))) Via.refl e8 pr_F_a_1_position (g := (mkF m 12 #[.val (.ref a_1), .val (.long q_2), .second] [(.ref a_1), (.ref a_1)])) rfl rfl (hb hby own_d23_12)
  refine own_go (fun _ k => st10 _ k) ?_
  show own_Go _ _ _ _ T10 (mkF m 15 #[.val (.ref a_1), .val (.long q_2), .second] [(.long pn), (.ref a_1)])
  refine own_go (fun _ k => XS.lloadN X10.here hx rfl (hb hby own_d23_15) rfl k) ?_
  show own_Go _ _ _ _ T10 (mkF m 16 #[.val (.ref a_1), .val (.long q_2), .second] [(.long q_2), (.long pn), (.ref a_1)])
  obtain ⟨_, _, ⟨T11, L11, k11, n11⟩, -, X11, ⟨Lc11, hQ11, l11, y11, z11⟩, st11⟩ := Jvm.LawKit.callS X10 hx (y := (⟨"java/lang/Math", "max", "(JJ)J"⟩ : MethodName)) hown (mvT hZ (hw _ (List.mem_of_getElem? (i := 116) rfl))) (mvT hZ (hw _ (List.mem_of_getElem? (i := 117) rfl))) (mvT hZ (hw _ (List.mem_of_getElem? (i := 118) rfl))) (mvT hZ (hw _ (List.mem_of_getElem? (i := 119) rfl))) (by decide) (backOf (W := 1) (own_rm20 l Z a0 hw [] pn q_2  h0 n0 (by omega) ) hZ (hw _ (List.mem_of_getElem? (i := 119) rfl)) (hw _ (List.mem_of_getElem? (i := 118) rfl)) (by decide) (by decide)) (g := (mkF m 16 #[.val (.ref a_1), .val (.long q_2), .second] [(.long q_2), (.long pn), (.ref a_1)])) rfl (by rw [hml]; rfl) (argsL := [(.long pn), (.long q_2)]) (rest := [(.ref a_1)]) (lenOf own_pd8 rfl) rfl (by show 2 * 0 + _ ≤ _; exact Nat.le_of_eq rfl) (hb hby own_d23_16) (fun _ _ => ⟨rfl, e10, (by show k8 + _ ≤ _; rw [y8]; decide), (by show n8 + _ ≤ _; rw [z8]; decide)⟩)
  dsimp only [Pt.U, Pt.locs, Pt.cells, Pt.slots] at X11 l11 y11 z11 st11 hQ11
  have y11 : k11 = 0 := own_addeq y11 (congrArg (fun q => q) y8) rfl
  have z11 : n11 = 0 := own_addeq z11 (congrArg (fun q => q) z8) rfl
  obtain ⟨r12, rfl, N11q, hr_r12, e11⟩ := hQ11
  have N11 : Fr n0 L11 := by rw [l11]; exact Fr.app N8 N11q
  refine own_go (fun _ k => st11 _ k) ?_
  show own_Go _ _ _ _ T11 (mkF m 19 #[.val (.ref a_1), .val (.long q_2), .second] [(.long r12), (.ref a_1)])
  obtain ⟨T13, h13, X13, e13, W13, st13⟩ := putF X11 hx hZ hown (host := "") (Or.inl (hw _ (List.mem_of_getElem? (i := 103) rfl))) Via.refl e11 pr_F_a_1_position pr_E_a_1 (Or.inl (hw _ (List.mem_of_getElem? (i := 104) rfl))) (hw _ (List.mem_of_getElem? (i := 1) rfl)) (ty := .long) (by decide) rfl rfl (g := (mkF m 19 #[.val (.ref a_1), .val (.long q_2), .second] [(.long r12), (.ref a_1)])) rfl rfl (hb hby own_d23_19)
  have z14 := W13.size
  have K13 : Keep h0 h13 [a_1] := K0.wr W13 (Or.inl (List.mem_of_getElem? (i := 0) rfl))
  have N13 := Fr.snoc X13 N11 (by omega : n0 ≤ a_1)
  have Fw13 : Fld Z h13 a_1 "com/example/fencepost/fencepost/connector/SlotConfirmation" "position" "J" (.long r12) := Fld.same W13 pr_F_a_1_position
  refine own_go (fun _ k => st13 _ k) ?_
  show own_Go _ _ _ _ T13 (mkF m 22 #[.val (.ref a_1), .val (.long q_2), .second] [])
  obtain ⟨fs, hr, hrun, hended, hW, hsame⟩ := X13.leave (v := none) (fun _ => rfl)
  refine ⟨_, _, X13.returnOut hx Bd.returns (hb hby own_d23_22) hr, hrun, hended, _, _, rfl, ?_, ⟨_, rfl⟩, hW, hsame.mono (by rw [y11]; decide) (by rw [z11]; decide)⟩
  show own_Q23_e Z a_1 q_2 q pn h0 n0 _ T13.heap _
  rw [e13]
  have f16 : Fld Z h13 a_1 "com/example/fencepost/fencepost/connector/SlotConfirmation" "unstored" "Ljava/util/ArrayDeque;" (.ref q) := (pr_F_a_1_unstored.other W13 (Or.inr (slot_ne (Or.inr (hw _ (List.mem_of_getElem? (i := 27) rfl))) (Or.inl (hw _ (List.mem_of_getElem? (i := 104) rfl))) (by decide) (t := (.object "java/util/ArrayDeque")) (t' := .long) (by decide) (by decide))))
  exact ⟨rfl, N13, K13, f16, (by have hh : r12 = (own_rm20_ret pn q_2) := (by subst hr_r12; rfl); rw [← hh]; exact Fw13)⟩
theorem own_ef_own_rm23_b (m : MethodId) (x0 : Addr) (x1 : Int64) : entryFrame m #[(.ref x0), (.long x1)] 3 = mkF m 0 #[.val (.ref x0), .val (.long x1), .second] [] := by first | (simp [entryFrame, mkF, argsToLocals, Value.category]; done) | rfl
def own_Q23_b (Z : State) (a_1 : Addr) (q_2 : Int64) (q : Addr) (h0 : Heap) (n0 : Nat) (v : Option Value) (h : Heap) (L : List Loc) : Prop := v = none ∧ Fr n0 L ∧ h = h0
set_option maxRecDepth 65536 in
set_option maxHeartbeats 40000000 in
theorem own_rm23_b (l : Launch) (Z : State) (a0 : Array Value) (hw : ∀ d ∈ tables_1, d.before a0 Z = true) (ws : List Jvm.Cond) (a_1 : Addr) (q_2 : Int64) (q : Addr) (h0 : Heap) (n0 : Nat) (Z0 : n0 ≤ h0.size) (pr_E_a_1 : Exa Z h0 a_1 "com/example/fencepost/fencepost/connector/SlotConfirmation") (pr_F_a_1_unstored : Fld Z h0 a_1 "com/example/fencepost/fencepost/connector/SlotConfirmation" "unstored" "Ljava/util/ArrayDeque;" (.ref q)) (pr_E_q : Exa Z h0 q "java/util/ArrayDeque") (pr_F_q_head : Fld Z h0 q "java/util/ArrayDeque" "head" "I" (.int (1 : Int32))) (pr_F_q_tail : Fld Z h0 q "java/util/ArrayDeque" "tail" "I" (.int (2 : Int32))) :
    MetFree l (⟨"com/example/fencepost/fencepost/connector/SlotConfirmation", "idle", "(J)V"⟩ : MethodName) (head1 (Jvm.Cond.code (⟨"com/example/fencepost/fencepost/connector/SlotConfirmation", "idle", "(J)V"⟩ : MethodName) prog_17_method_7_code 3 none :: ws) ({ frames := 1, cells := 0, slots := 0, locals := 12 } : Room)) (fun a U => a = #[(.ref a_1), (.long q_2)] ∧ Z.Warmed39 U.vm ∧ U.heap = h0) (fun _ _ _ _ _ => True) (fun _ U o U' => ∃ v L, o = .returned v ∧ own_Q23_b Z a_1 q_2 q h0 n0 v U'.heap L ∧ FrameEnd U o U' L ({ frames := 1, cells := 0, slots := 0, locals := 12 } : Room).cells ({ frames := 1, cells := 0, slots := 0, locals := 12 } : Room).slots) := by
  refine MetFree.of_bodySF (plainFor_of_name own_pn2) hisR ?_
  intro p e s m args below meth c s₁ Bd hml0 hP hK
  obtain ⟨rfl, hZ, hh⟩ := hP
  have hx := Bd.exec
  have hby := Bd.bytes
  have hml : c.maxLocals = 3 := hml0
  have hown : s.vm.findClass "com/example/fencepost/fencepost/connector/SlotConfirmation" = some m.cls := findClass_of_methodNamed Bd.named
  have hnm := (name_of_methodNamed Bd.named Bd.method).1
  have X0 : Stand p l e ({ frames := 1, cells := 0, slots := 0, locals := 12 } : Room) s m #[(.ref a_1), (.long q_2)] below meth c s₁ [] 0 0 := Stand.of_body Bd
  have e0 : s₁.heap = h0 := by rw [← hh, Bd.state]; rfl
  have N0 := Fr.nil n0
  have z0 : n0 ≤ h0.size := Z0
  have z1 := own_lt pr_E_a_1.lt
  have z2 := own_lt pr_F_a_1_unstored.lt
  have z3 := own_lt pr_E_q.lt
  have z4 := own_lt pr_F_q_head.lt
  have z5 := own_lt pr_F_q_tail.lt
  show own_Go p.tables e below (fun t o => t.status = .running ∧ Ended t below o ∧ ∃ v L, o = .returned v ∧ own_Q23_b Z a_1 q_2 q h0 n0 v t.heap L ∧ FrameEnd s o t L ({ frames := 1, cells := 0, slots := 0, locals := 12 } : Room).cells ({ frames := 1, cells := 0, slots := 0, locals := 12 } : Room).slots) s₁ (entryFrame m #[(.ref a_1), (.long q_2)] 3)
  rw [own_ef_own_rm23_b m a_1 q_2]
  show own_Go _ _ _ _ s₁ (mkF m 0 #[.val (.ref a_1), .val (.long q_2), .second] [])
  refine own_go (fun _ k => XS.aloadN X0.here hx rfl (hb hby own_d23_0) rfl rfl k) ?_
  show own_Go _ _ _ _ s₁ (mkF m 1 #[.val (.ref a_1), .val (.long q_2), .second] [(.ref a_1)])
  obtain ⟨T6, X6, e6, st6⟩ := getF X0 hx hZ hown (host := "") (Or.inl (hw _ (List.mem_of_getElem? (i := 26) rfl))) Via.refl e0 pr_F_a_1_unstored (g := (mkF m 1 #[.val (.ref a_1), .val (.long q_2), .second] [(.ref a_1)])) rfl rfl (hb hby own_d23_1)
  refine own_go (fun _ k => st6 _ k) ?_
  show own_Go _ _ _ _ T6 (mkF m 4 #[.val (.ref a_1), .val (.long q_2), .second] [(.ref q)])
  obtain ⟨cq7, kq7, q7a, q7b, q7c⟩ := isOf hZ e6 pr_E_q
  obtain ⟨_, _, ⟨T7, L7, k7, n7⟩, -, X7, ⟨Lc7, hQ7, l7, y7, z7⟩, st7⟩ := X6.virtualBack hx (y := (⟨"java/util/ArrayDeque", "isEmpty", "()Z"⟩ : MethodName)) (z := (⟨"java/util/ArrayDeque", "isEmpty", "()Z"⟩ : MethodName)) hown (mvT hZ (hw _ (List.mem_of_getElem? (i := 92) rfl))) (mvT hZ (hw _ (List.mem_of_getElem? (i := 93) rfl))) (notFace_of_selects (args := #[]) (mvT hZ (hw _ (List.mem_of_getElem? (i := 95) rfl)))) (mvT hZ (hw _ (List.mem_of_getElem? (i := 95) rfl))) (mvT hZ (hw _ (List.mem_of_getElem? (i := 94) rfl))) (by decide) (backOf (W := 0) (own_rm16_12 l Z a0 hw [] q  h0 n0 (by omega) pr_F_q_head pr_F_q_tail) hZ (hw _ (List.mem_of_getElem? (i := 96) rfl)) (hw _ (List.mem_of_getElem? (i := 11) rfl)) (by decide) (by decide)) q7a q7c (g := (mkF m 4 #[.val (.ref a_1), .val (.long q_2), .second] [(.ref q)])) rfl (by rw [hml]; rfl) (Steps.refl _) (argsL := []) (rest := []) (lenOf own_pd7 rfl) rfl (by show 2 * 0 + _ ≤ _; exact Nat.le_of_eq rfl) (hb hby own_d23_4) (fun _ _ => ⟨rfl, e6, (by decide : 0 + 0 ≤ _), (by decide : 0 + 0 ≤ _)⟩)
  dsimp only [Pt.U, Pt.locs, Pt.cells, Pt.slots] at X7 l7 y7 z7 st7 hQ7
  have y7 : k7 = 0 := y7
  have z7 : n7 = 0 := z7
  obtain ⟨rfl, N7q, e7⟩ := hQ7
  have N7 : Fr n0 L7 := by rw [l7]; exact Fr.app N0 N7q
  refine own_go (fun _ k => st7.trans k) ?_
  show own_Go _ _ _ _ T7 (mkF m 7 #[.val (.ref a_1), .val (.long q_2), .second] [(.int (0 : Int32))])
  have hc8 : (0 : Int32) = 0 := by decide
  refine own_go (fun _ k => XS.ifYes X7.here hx rfl (pc0 := 7) (pc' := 22) rfl (hb hby own_d23_7) rfl (Jvm.Free.XT.i0_eq_t hc8) (by decide) (by decide) k) ?_
  show own_Go _ _ _ _ T7 (mkF m 22 #[.val (.ref a_1), .val (.long q_2), .second] [])
  obtain ⟨fs, hr, hrun, hended, hW, hsame⟩ := X7.leave (v := none) (fun _ => rfl)
  refine ⟨_, _, X7.returnOut hx Bd.returns (hb hby own_d23_22) hr, hrun, hended, _, _, rfl, ?_, ⟨_, rfl⟩, hW, hsame.mono (by rw [y7]; decide) (by rw [z7]; decide)⟩
  show own_Q23_b Z a_1 q_2 q h0 n0 _ T7.heap _
  rw [e7]
  exact ⟨rfl, N7, rfl⟩
theorem own_ef_own_rm0 (m : MethodId) (x0 : Int64) (x1 : Int64) (x2 : Int64) (x3 : Int32) : entryFrame m #[(.long x0), (.long x1), (.long x2), (.int x3)] maxLocals = mkF m 0 #[.val (.long x0), .second, .val (.long x1), .second, .val (.long x2), .second, .val (.int x3), .unset, .unset, .unset, .unset, .unset, .unset, .unset, .unset] [] := by first | (simp [entryFrame, mkF, argsToLocals, Value.category, maxLocals]; done) | rfl
set_option maxRecDepth 65536 in
set_option maxHeartbeats 4000000 in
theorem own_t0_0 (q_1 : Int64) (v64 : Int64) (r74 : Int64) (hdv64 : v64 = (own_rm20_ret (0 : Int64) q_1)) (hr_r74 : r74 = (own_rm22_ret (0 : Int64) q_1)) : v64 = r74 := by
  grind [own_rm20_ret, own_rm22_ret]
set_option maxRecDepth 65536 in
set_option maxHeartbeats 4000000 in
theorem own_t0_1 (q_1 : Int64) (q_2 : Int64) (v64 : Int64) (r74 : Int64) (v82 : Int64) (hdv64 : v64 = (own_rm20_ret (0 : Int64) q_1)) (hr_r74 : r74 = (own_rm22_ret (0 : Int64) q_1)) (hc75 : v64 = r74) (hdv82 : v82 = (own_rm20_ret v64 q_2)) (hc87 : v64 < q_2) : v82 = q_2 := by
  grind [own_rm20_ret, own_rm22_ret]
set_option maxRecDepth 65536 in
set_option maxHeartbeats 4000000 in
theorem own_t0_2 (q_1 : Int64) (q_2 : Int64) (v64 : Int64) (r74 : Int64) (v82 : Int64) (hdv64 : v64 = (own_rm20_ret (0 : Int64) q_1)) (hr_r74 : r74 = (own_rm22_ret (0 : Int64) q_1)) (hc75 : v64 = r74) (hdv82 : v82 = (own_rm20_ret v64 q_2)) (hc87 : ¬ (v64 < q_2)) : v82 = v64 := by
  grind [own_rm20_ret, own_rm22_ret]
set_option maxRecDepth 65536 in
set_option maxHeartbeats 4000000 in
theorem own_t0_3 (q_1 : Int64) (q_3 : Int64) (v156 : Int64) (r166 : Int64) (v210 : Int64) (r220 : Int64) (hdv156 : v156 = (own_rm20_ret (0 : Int64) q_1)) (hr_r166 : r166 = (own_rm22_ret (0 : Int64) q_1)) (hc167 : v156 = r166) (hdv210 : v210 = (own_rm20_ret v156 q_3)) (hr_r220 : r220 = (own_rm22_ret v156 q_3)) : v210 = r220 := by
  grind [own_rm20_ret, own_rm22_ret]
def own_Q0 (Z : State) (q_1 : Int64) (q_2 : Int64) (q_3 : Int64) (p_4 : Int32) (h0 : Heap) (n0 : Nat) (v : Option Value) (h : Heap) (L : List Loc) : Prop := v = some (.int (1 : Int32)) ∧ Fr n0 L
set_option maxRecDepth 65536 in
set_option maxHeartbeats 40000000 in
theorem own_rm0 (l : Launch) (Z : State) (a0 : Array Value) (hw : ∀ d ∈ tables_1, d.before a0 Z = true) (ws : List Jvm.Cond) (q_1 : Int64) (q_2 : Int64) (q_3 : Int64) (p_4 : Int32) (h0 : Heap) (n0 : Nat) (Z0 : n0 ≤ h0.size) :
    MetFree l x (head1 (Jvm.Cond.code x code maxLocals ret :: ws) room_1) (fun a U => a = #[(.long q_1), (.long q_2), (.long q_3), (.int p_4)] ∧ Z.Warmed39 U.vm ∧ U.heap = h0) (fun _ _ _ _ _ => True) (fun _ U o U' => ∃ v L, o = .returned v ∧ own_Q0 Z q_1 q_2 q_3 p_4 h0 n0 v U'.heap L ∧ FrameEnd U o U' L 5 28) := by
  refine MetFree.of_bodySF (plainFor_of_name own_pn4) hisR ?_
  intro p e s m args below meth c s₁ Bd hml0 hP hK
  obtain ⟨rfl, hZ, hh⟩ := hP
  have hx := Bd.exec
  have hby := Bd.bytes
  have hml : c.maxLocals = 15 := hml0
  have hown : s.vm.findClass "com/example/fencepost/fencepost/connector/SlotConfirmationIdlePinLaw" = some m.cls := findClass_of_methodNamed Bd.named
  have hnm := (name_of_methodNamed Bd.named Bd.method).1
  have X0 : Stand p l e room_1 s m #[(.long q_1), (.long q_2), (.long q_3), (.int p_4)] below meth c s₁ [] 0 0 := Stand.of_body Bd
  have e0 : s₁.heap = h0 := by rw [← hh, Bd.state]; rfl
  have N0 := Fr.nil n0
  have z0 : n0 ≤ h0.size := Z0
  have K0 : Keep h0 h0 [] := Keep.refl h0 _
  show own_Go p.tables e below (fun t o => t.status = .running ∧ Ended t below o ∧ ∃ v L, o = .returned v ∧ own_Q0 Z q_1 q_2 q_3 p_4 h0 n0 v t.heap L ∧ FrameEnd s o t L 5 28) s₁ (entryFrame m #[(.long q_1), (.long q_2), (.long q_3), (.int p_4)] maxLocals)
  rw [own_ef_own_rm0 m q_1 q_2 q_3 p_4]
  show own_Go _ _ _ _ s₁ (mkF m 0 #[.val (.long q_1), .second, .val (.long q_2), .second, .val (.long q_3), .second, .val (.int p_4), .unset, .unset, .unset, .unset, .unset, .unset, .unset, .unset] [])
  refine own_go (fun _ k => XS.iload X0.here hx rfl (hb hby at_0) rfl k) ?_
  show own_Go _ _ _ _ s₁ (mkF m 2 #[.val (.long q_1), .second, .val (.long q_2), .second, .val (.long q_3), .second, .val (.int p_4), .unset, .unset, .unset, .unset, .unset, .unset, .unset, .unset] [(.int p_4)])
  refine own_go (fun _ k => XS.iconst X0.here hx rfl (hb hby at_2) k) ?_
  show own_Go _ _ _ _ s₁ (mkF m 3 #[.val (.long q_1), .second, .val (.long q_2), .second, .val (.long q_3), .second, .val (.int p_4), .unset, .unset, .unset, .unset, .unset, .unset, .unset, .unset] [(.int (1 : Int32)), (.int p_4)])
  refine own_go (fun _ k => XS.iand X0.here hx rfl (hb hby at_3) rfl k) ?_
  show own_Go _ _ _ _ s₁ (mkF m 4 #[.val (.long q_1), .second, .val (.long q_2), .second, .val (.long q_3), .second, .val (.int p_4), .unset, .unset, .unset, .unset, .unset, .unset, .unset, .unset] [(.int (p_4 &&& (1 : Int32)))])
  by_cases hc1 : (p_4 &&& (1 : Int32)) = 0
  · refine own_go (fun _ k => XS.ifYes X0.here hx rfl (pc0 := 4) (pc' := 11) rfl (hb hby at_4) rfl (Jvm.Free.XT.i0_eq_t hc1) (by decide) (by decide) k) ?_
    show own_Go _ _ _ _ s₁ (mkF m 11 #[.val (.long q_1), .second, .val (.long q_2), .second, .val (.long q_3), .second, .val (.int p_4), .unset, .unset, .unset, .unset, .unset, .unset, .unset, .unset] [])
    refine own_go (fun _ k => XS.iconst X0.here hx rfl (hb hby at_11) k) ?_
    show own_Go _ _ _ _ s₁ (mkF m 12 #[.val (.long q_1), .second, .val (.long q_2), .second, .val (.long q_3), .second, .val (.int p_4), .unset, .unset, .unset, .unset, .unset, .unset, .unset, .unset] [(.int (0 : Int32))])
    refine own_go (fun _ k => XS.istore X0.here hx rfl (hb hby at_12) rfl (l' := #[.val (.long q_1), .second, .val (.long q_2), .second, .val (.long q_3), .second, .val (.int p_4), .val (.int (0 : Int32)), .unset, .unset, .unset, .unset, .unset, .unset, .unset]) rfl k) ?_
    show own_Go _ _ _ _ s₁ (mkF m 14 #[.val (.long q_1), .second, .val (.long q_2), .second, .val (.long q_3), .second, .val (.int p_4), .val (.int (0 : Int32)), .unset, .unset, .unset, .unset, .unset, .unset, .unset] [])
    obtain ⟨T2, h2, X2, e2, E2, A2, D2, Y2, st2⟩ := newO X0 hx hZ hown (hw _ (List.mem_of_getElem? (i := 0) rfl)) (hw _ (List.mem_of_getElem? (i := 1) rfl)) (hw _ (List.mem_of_getElem? (i := 2) rfl)) e0 (g := (mkF m 14 #[.val (.long q_1), .second, .val (.long q_2), .second, .val (.long q_3), .second, .val (.int p_4), .val (.int (0 : Int32)), .unset, .unset, .unset, .unset, .unset, .unset, .unset] [])) rfl (hb hby at_14) (by decide) (by decide)
    obtain ⟨b2, g2⟩ : ∃ z, z = h0.size := ⟨_, rfl⟩
    rw [← g2] at A2 D2 Y2 st2
    have z3 := E2.1
    have lt_b2 := own_lt A2.lt
    have K2 : Keep h0 h2 [] := K0.ext E2
    have F_unstored_b2 : Fld Z h2 b2 "com/example/fencepost/fencepost/connector/SlotConfirmation" "unstored" "Ljava/util/ArrayDeque;" .null := D2 (Or.inr (hw _ (List.mem_of_getElem? (i := 27) rfl))) (ty := (.object "java/util/ArrayDeque")) (by decide)
    have F_position_b2 : Fld Z h2 b2 "com/example/fencepost/fencepost/connector/SlotConfirmation" "position" "J" (.long (0 : Int64)) := D2 (Or.inl (hw _ (List.mem_of_getElem? (i := 104) rfl))) (ty := .long) (by decide)
    refine own_go (fun _ k => st2 _ k) ?_
    show own_Go _ _ _ _ T2 (mkF m 17 #[.val (.long q_1), .second, .val (.long q_2), .second, .val (.long q_3), .second, .val (.int p_4), .val (.int (0 : Int32)), .unset, .unset, .unset, .unset, .unset, .unset, .unset] [(.ref b2)])
    refine own_go (fun _ k => XS.dup X2.here hx rfl (hb hby at_17) rfl rfl k) ?_
    show own_Go _ _ _ _ T2 (mkF m 18 #[.val (.long q_1), .second, .val (.long q_2), .second, .val (.long q_3), .second, .val (.int p_4), .val (.int (0 : Int32)), .unset, .unset, .unset, .unset, .unset, .unset, .unset] [(.ref b2), (.ref b2)])
    obtain ⟨_, _, ⟨T4, L4, k4, n4⟩, -, X4, ⟨Lc4, hQ4, l4, y4, z4⟩, st4⟩ := X2.specialBack hx (y := (⟨"com/example/fencepost/fencepost/connector/SlotConfirmation", "<init>", "()V"⟩ : MethodName)) rfl hown (mvT hZ (hw _ (List.mem_of_getElem? (i := 3) rfl))) (mvT hZ (hw _ (List.mem_of_getElem? (i := 4) rfl))) (mvT hZ (hw _ (List.mem_of_getElem? (i := 5) rfl))) (by decide) (backOf (W := 1) (own_rm1 l Z a0 hw [] b2 .null (0 : Int64) h2 n0 (by omega) A2 F_unstored_b2 F_position_b2 (by omega)) hZ (hw _ (List.mem_of_getElem? (i := 5) rfl)) (hw _ (List.mem_of_getElem? (i := 2) rfl)) (by decide) (by decide)) (g := (mkF m 18 #[.val (.long q_1), .second, .val (.long q_2), .second, .val (.long q_3), .second, .val (.int p_4), .val (.int (0 : Int32)), .unset, .unset, .unset, .unset, .unset, .unset, .unset] [(.ref b2), (.ref b2)])) rfl (by rw [hml]; rfl) (Steps.refl _) (a := b2) (argsL := []) (rest := [(.ref b2)]) (lenOf own_pd4 rfl) rfl (by show 2 * 0 + _ ≤ _; exact Nat.le_of_eq rfl) (hb hby at_18) (fun _ _ => ⟨rfl, e2, (by decide : 1 + 2 ≤ _), (by decide : 2 + 20 ≤ _)⟩)
    dsimp only [Pt.U, Pt.locs, Pt.cells, Pt.slots] at X4 l4 y4 z4 st4 hQ4
    have y4 : k4 = 3 := y4
    have z4 : n4 = 22 := z4
    obtain ⟨x_5, x_6, rfl, N4q, K4q, f7, f8, f9, f10, f11, f12, f13, f14, f15, f16, f17, f18⟩ := hQ4
    have N4 : Fr n0 L4 := by rw [l4]; exact Fr.app N0 N4q
    have z19 := K4q.1
    have K4 : Keep h0 T4.heap [] := K2.trans K4q (allS (Or.inr (by omega)) all0)
    have z20 := own_lt f7.lt
    have z21 := own_lt f8.lt
    have z22 := own_lt f9.lt
    have z23 := own_lt f10.lt
    have z24 := own_lt f11.lt
    have z25 := own_lt f12.lt
    have z26 := own_lt f13.lt
    have z27 := own_lt f14.lt
    have z28 := own_lt f15.lt
    simp only [own_lts, and_true] at f18
    refine own_go (fun _ k => st4.trans k) ?_
    show own_Go _ _ _ _ T4 (mkF m 21 #[.val (.long q_1), .second, .val (.long q_2), .second, .val (.long q_3), .second, .val (.int p_4), .val (.int (0 : Int32)), .unset, .unset, .unset, .unset, .unset, .unset, .unset] [(.ref b2)])
    refine own_go (fun _ k => XS.astore X4.here hx rfl (hb hby at_21) rfl rfl (l' := #[.val (.long q_1), .second, .val (.long q_2), .second, .val (.long q_3), .second, .val (.int p_4), .val (.int (0 : Int32)), .val (.ref b2), .unset, .unset, .unset, .unset, .unset, .unset]) rfl k) ?_
    show own_Go _ _ _ _ T4 (mkF m 23 #[.val (.long q_1), .second, .val (.long q_2), .second, .val (.long q_3), .second, .val (.int p_4), .val (.int (0 : Int32)), .val (.ref b2), .unset, .unset, .unset, .unset, .unset, .unset] [])
    refine own_go (fun _ k => XS.aload X4.here hx rfl (hb hby at_23) rfl rfl k) ?_
    show own_Go _ _ _ _ T4 (mkF m 25 #[.val (.long q_1), .second, .val (.long q_2), .second, .val (.long q_3), .second, .val (.int p_4), .val (.int (0 : Int32)), .val (.ref b2), .unset, .unset, .unset, .unset, .unset, .unset] [(.ref b2)])
    refine own_go (fun _ k => XS.lloadN X4.here hx rfl (hb hby at_25) rfl k) ?_
    show own_Go _ _ _ _ T4 (mkF m 26 #[.val (.long q_1), .second, .val (.long q_2), .second, .val (.long q_3), .second, .val (.int p_4), .val (.int (0 : Int32)), .val (.ref b2), .unset, .unset, .unset, .unset, .unset, .unset] [(.long q_1), (.ref b2)])
    refine own_go (fun _ k => XS.lconst X4.here hx rfl (hb hby at_26) k) ?_
    show own_Go _ _ _ _ T4 (mkF m 27 #[.val (.long q_1), .second, .val (.long q_2), .second, .val (.long q_3), .second, .val (.int p_4), .val (.int (0 : Int32)), .val (.ref b2), .unset, .unset, .unset, .unset, .unset, .unset] [(.long (0 : Int64)), (.long q_1), (.ref b2)])
    obtain ⟨cq29, kq29, q29a, q29b, q29c⟩ := isOf hZ rfl f7
    obtain ⟨_, _, ⟨T29, L29, k29, n29⟩, -, X29, ⟨Lc29, hQ29, l29, y29, z29⟩, st29⟩ := X4.virtualBack hx (y := (⟨"com/example/fencepost/fencepost/connector/SlotConfirmation", "began", "(JJ)V"⟩ : MethodName)) (z := (⟨"com/example/fencepost/fencepost/connector/SlotConfirmation", "began", "(JJ)V"⟩ : MethodName)) hown (mvT hZ (hw _ (List.mem_of_getElem? (i := 28) rfl))) (mvT hZ (hw _ (List.mem_of_getElem? (i := 29) rfl))) (notFace_of_selects (args := #[]) (mvT hZ (hw _ (List.mem_of_getElem? (i := 31) rfl)))) (mvT hZ (hw _ (List.mem_of_getElem? (i := 31) rfl))) (mvT hZ (hw _ (List.mem_of_getElem? (i := 30) rfl))) (by decide) (backOf (W := 0) (own_rm5_0 l Z a0 hw [] b2 q_1 x_5 x_6 (fun _ => .null) T4.heap n0 (by omega) f7 f8 f10 f11 f13 f12 f14 f15 rfl (by simp only [own_lts, and_true]; omega) (by omega) (by omega)) hZ (hw _ (List.mem_of_getElem? (i := 32) rfl)) (hw _ (List.mem_of_getElem? (i := 2) rfl)) (by decide) (by decide)) q29a q29c (g := (mkF m 27 #[.val (.long q_1), .second, .val (.long q_2), .second, .val (.long q_3), .second, .val (.int p_4), .val (.int (0 : Int32)), .val (.ref b2), .unset, .unset, .unset, .unset, .unset, .unset] [(.long (0 : Int64)), (.long q_1), (.ref b2)])) rfl (by rw [hml]; rfl) (Steps.refl _) (argsL := [(.long q_1), (.long (0 : Int64))]) (rest := []) (lenOf own_pd5 rfl) rfl (by show 2 * 0 + _ ≤ _; exact Nat.le_of_eq rfl) (hb hby at_27) (fun _ _ => ⟨rfl, rfl, (by show k4 + _ ≤ _; rw [y4]; decide), (by show n4 + _ ≤ _; rw [z4]; decide)⟩)
    dsimp only [Pt.U, Pt.locs, Pt.cells, Pt.slots] at X29 l29 y29 z29 st29 hQ29
    have y29 : k29 = 4 := own_addeq y29 (congrArg (fun q => q) y4) rfl
    have z29 : n29 = 25 := own_addeq z29 (congrArg (fun q => q) z4) rfl
    obtain ⟨x30, rfl, N29q, K29q, f31, f32, f33, f34, f35, f36, f37, f38, f39, f40⟩ := hQ29
    have N29 : Fr n0 L29 := by rw [l29]; exact Fr.app N4 N29q
    have z41 := K29q.1
    have K29 : Keep h0 T29.heap [] := K4.trans K29q (allS (Or.inr (by omega)) (allS (Or.inr (by omega)) all0))
    have z42 := own_lt f31.lt
    have z43 := own_lt f32.lt
    have z44 := own_lt f33.lt
    have z45 := own_lt f34.lt
    have z46 := own_lt f35.lt
    have z47 := own_lt f36.lt
    have z48 := own_lt f37.lt
    have z49 := own_lt f38.lt
    have z50 := own_lt f39.lt
    refine own_go (fun _ k => st29.trans k) ?_
    show own_Go _ _ _ _ T29 (mkF m 30 #[.val (.long q_1), .second, .val (.long q_2), .second, .val (.long q_3), .second, .val (.int p_4), .val (.int (0 : Int32)), .val (.ref b2), .unset, .unset, .unset, .unset, .unset, .unset] [])
    refine own_go (fun _ k => XS.aload X29.here hx rfl (hb hby at_30) rfl rfl k) ?_
    show own_Go _ _ _ _ T29 (mkF m 32 #[.val (.long q_1), .second, .val (.long q_2), .second, .val (.long q_3), .second, .val (.int p_4), .val (.int (0 : Int32)), .val (.ref b2), .unset, .unset, .unset, .unset, .unset, .unset] [(.ref b2)])
    refine own_go (fun _ k => XS.lconst X29.here hx rfl (hb hby at_32) k) ?_
    show own_Go _ _ _ _ T29 (mkF m 33 #[.val (.long q_1), .second, .val (.long q_2), .second, .val (.long q_3), .second, .val (.int p_4), .val (.int (0 : Int32)), .val (.ref b2), .unset, .unset, .unset, .unset, .unset, .unset] [(.long (0 : Int64)), (.ref b2)])
    have f51 : Exa Z T29.heap b2 "com/example/fencepost/fencepost/connector/SlotConfirmation" := (f7.keep K29q)
    have f52 : Fld Z T29.heap b2 "com/example/fencepost/fencepost/connector/SlotConfirmation" "unstored" "Ljava/util/ArrayDeque;" (.ref x_5) := (f8.keep K29q (ninS (own_ne (by omega)) (ninS (own_ne (by omega)) nin0)))
    have f53 : Fld Z T29.heap b2 "com/example/fencepost/fencepost/connector/SlotConfirmation" "position" "J" (.long (0 : Int64)) := (f9.keep K29q (ninS (own_ne (by omega)) (ninS (own_ne (by omega)) nin0)))
    obtain ⟨cq54, kq54, q54a, q54b, q54c⟩ := isOf hZ rfl f51
    obtain ⟨_, _, ⟨T54, L54, k54, n54⟩, -, X54, ⟨Lc54, hQ54, l54, y54, z54⟩, st54⟩ := X29.virtualBack hx (y := (⟨"com/example/fencepost/fencepost/connector/SlotConfirmation", "ended", "(J)V"⟩ : MethodName)) (z := (⟨"com/example/fencepost/fencepost/connector/SlotConfirmation", "ended", "(J)V"⟩ : MethodName)) hown (mvT hZ (hw _ (List.mem_of_getElem? (i := 76) rfl))) (mvT hZ (hw _ (List.mem_of_getElem? (i := 77) rfl))) (notFace_of_selects (args := #[]) (mvT hZ (hw _ (List.mem_of_getElem? (i := 79) rfl)))) (mvT hZ (hw _ (List.mem_of_getElem? (i := 79) rfl))) (mvT hZ (hw _ (List.mem_of_getElem? (i := 78) rfl))) (by decide) (backOf (W := 0) (own_rm13_0 l Z a0 hw [] b2 x_5 x_6 (own_upd (fun _ => .null) 0 (.ref x30)) x30 q_1 (0 : Int64) T29.heap n0 (by omega) f51 f52 f53 f31 f32 f33 f34 f35 f36 f37 f38 f39 rfl (by simp only [own_lts, and_true]; omega) (by omega) (by omega) (by omega) (by omega)) hZ (hw _ (List.mem_of_getElem? (i := 80) rfl)) (hw _ (List.mem_of_getElem? (i := 2) rfl)) (by decide) (by decide)) q54a q54c (g := (mkF m 33 #[.val (.long q_1), .second, .val (.long q_2), .second, .val (.long q_3), .second, .val (.int p_4), .val (.int (0 : Int32)), .val (.ref b2), .unset, .unset, .unset, .unset, .unset, .unset] [(.long (0 : Int64)), (.ref b2)])) rfl (by rw [hml]; rfl) (Steps.refl _) (argsL := [(.long (0 : Int64))]) (rest := []) (lenOf own_pd9 rfl) rfl (by show 2 * 0 + _ ≤ _; exact Nat.le_of_eq rfl) (hb hby at_33) (fun _ _ => ⟨rfl, rfl, (by show k29 + _ ≤ _; rw [y29]; decide), (by show n29 + _ ≤ _; rw [z29]; decide)⟩)
    dsimp only [Pt.U, Pt.locs, Pt.cells, Pt.slots] at X54 l54 y54 z54 st54 hQ54
    have y54 : k54 = 4 := own_addeq y54 (congrArg (fun q => q) y29) rfl
    have z54 : n54 = 25 := own_addeq z54 (congrArg (fun q => q) z29) rfl
    obtain ⟨rfl, N54q, K54q, f55, f56, f57, f58, f59, f60, f61⟩ := hQ54
    have N54 : Fr n0 L54 := by rw [l54]; exact Fr.app N29 N54q
    have z62 := K54q.1
    have K54 : Keep h0 T54.heap [] := K29.trans K54q (allS (Or.inr (by omega)) (allS (Or.inr (by omega)) (allS (Or.inr (by omega)) (allS (Or.inr (by omega)) all0))))
    have z63 := own_lt f55.lt
    obtain ⟨v64, hdv64⟩ : ∃ z : Int64, z = (own_rm20_ret (0 : Int64) q_1) := ⟨_, rfl⟩
    rw [← hdv64] at f56
    have z65 := own_lt f56.lt
    have z66 := own_lt f57.lt
    have z67 := own_lt f58.lt
    have z68 := own_lt f59.lt
    have z69 := own_lt f60.lt
    have z70 := own_lt f61.lt
    refine own_go (fun _ k => st54.trans k) ?_
    show own_Go _ _ _ _ T54 (mkF m 36 #[.val (.long q_1), .second, .val (.long q_2), .second, .val (.long q_3), .second, .val (.int p_4), .val (.int (0 : Int32)), .val (.ref b2), .unset, .unset, .unset, .unset, .unset, .unset] [])
    refine own_go (fun _ k => XS.aload X54.here hx rfl (hb hby at_36) rfl rfl k) ?_
    show own_Go _ _ _ _ T54 (mkF m 38 #[.val (.long q_1), .second, .val (.long q_2), .second, .val (.long q_3), .second, .val (.int p_4), .val (.int (0 : Int32)), .val (.ref b2), .unset, .unset, .unset, .unset, .unset, .unset] [(.ref b2)])
    have f72 : Exa Z T54.heap b2 "com/example/fencepost/fencepost/connector/SlotConfirmation" := (f51.keep K54q)
    obtain ⟨cq71, kq71, q71a, q71b, q71c⟩ := isOf hZ rfl f72
    obtain ⟨_, _, ⟨T71, L71, k71, n71⟩, -, X71, ⟨Lc71, hQ71, l71, y71, z71⟩, st71⟩ := X54.virtualBack hx (y := (⟨"com/example/fencepost/fencepost/connector/SlotConfirmation", "position", "()J"⟩ : MethodName)) (z := (⟨"com/example/fencepost/fencepost/connector/SlotConfirmation", "position", "()J"⟩ : MethodName)) hown (mvT hZ (hw _ (List.mem_of_getElem? (i := 120) rfl))) (mvT hZ (hw _ (List.mem_of_getElem? (i := 121) rfl))) (notFace_of_selects (args := #[]) (mvT hZ (hw _ (List.mem_of_getElem? (i := 123) rfl)))) (mvT hZ (hw _ (List.mem_of_getElem? (i := 123) rfl))) (mvT hZ (hw _ (List.mem_of_getElem? (i := 122) rfl))) (by decide) (backOf (W := 0) (own_rm21 l Z a0 hw [] b2 v64 T54.heap n0 (by omega) f56) hZ (hw _ (List.mem_of_getElem? (i := 124) rfl)) (hw _ (List.mem_of_getElem? (i := 2) rfl)) (by decide) (by decide)) q71a q71c (g := (mkF m 38 #[.val (.long q_1), .second, .val (.long q_2), .second, .val (.long q_3), .second, .val (.int p_4), .val (.int (0 : Int32)), .val (.ref b2), .unset, .unset, .unset, .unset, .unset, .unset] [(.ref b2)])) rfl (by rw [hml]; rfl) (Steps.refl _) (argsL := []) (rest := []) (lenOf own_pd10 rfl) rfl (by show 2 * 0 + _ ≤ _; exact Nat.le_of_eq rfl) (hb hby at_38) (fun _ _ => ⟨rfl, rfl, (by show k54 + _ ≤ _; rw [y54]; decide), (by show n54 + _ ≤ _; rw [z54]; decide)⟩)
    dsimp only [Pt.U, Pt.locs, Pt.cells, Pt.slots] at X71 l71 y71 z71 st71 hQ71
    have y71 : k71 = 4 := own_addeq y71 (congrArg (fun q => q) y54) rfl
    have z71 : n71 = 25 := own_addeq z71 (congrArg (fun q => q) z54) rfl
    obtain ⟨rfl, N71q, e71⟩ := hQ71
    have N71 : Fr n0 L71 := by rw [l71]; exact Fr.app N54 N71q
    refine own_go (fun _ k => st71.trans k) ?_
    show own_Go _ _ _ _ T71 (mkF m 41 #[.val (.long q_1), .second, .val (.long q_2), .second, .val (.long q_3), .second, .val (.int p_4), .val (.int (0 : Int32)), .val (.ref b2), .unset, .unset, .unset, .unset, .unset, .unset] [(.long v64)])
    refine own_go (fun _ k => XS.lstore X71.here hx rfl (hb hby at_41) rfl (l' := #[.val (.long q_1), .second, .val (.long q_2), .second, .val (.long q_3), .second, .val (.int p_4), .val (.int (0 : Int32)), .val (.ref b2), .val (.long v64), .second, .unset, .unset, .unset, .unset]) rfl k) ?_
    show own_Go _ _ _ _ T71 (mkF m 43 #[.val (.long q_1), .second, .val (.long q_2), .second, .val (.long q_3), .second, .val (.int p_4), .val (.int (0 : Int32)), .val (.ref b2), .val (.long v64), .second, .unset, .unset, .unset, .unset] [])
    refine own_go (fun _ k => XS.lload X71.here hx rfl (hb hby at_43) rfl k) ?_
    show own_Go _ _ _ _ T71 (mkF m 45 #[.val (.long q_1), .second, .val (.long q_2), .second, .val (.long q_3), .second, .val (.int p_4), .val (.int (0 : Int32)), .val (.ref b2), .val (.long v64), .second, .unset, .unset, .unset, .unset] [(.long v64)])
    refine own_go (fun _ k => XS.lconst X71.here hx rfl (hb hby at_45) k) ?_
    show own_Go _ _ _ _ T71 (mkF m 46 #[.val (.long q_1), .second, .val (.long q_2), .second, .val (.long q_3), .second, .val (.int p_4), .val (.int (0 : Int32)), .val (.ref b2), .val (.long v64), .second, .unset, .unset, .unset, .unset] [(.long (0 : Int64)), (.long v64)])
    refine own_go (fun _ k => XS.lloadN X71.here hx rfl (hb hby at_46) rfl k) ?_
    show own_Go _ _ _ _ T71 (mkF m 47 #[.val (.long q_1), .second, .val (.long q_2), .second, .val (.long q_3), .second, .val (.int p_4), .val (.int (0 : Int32)), .val (.ref b2), .val (.long v64), .second, .unset, .unset, .unset, .unset] [(.long q_1), (.long (0 : Int64)), (.long v64)])
    obtain ⟨_, _, ⟨T73, L73, k73, n73⟩, -, X73, ⟨Lc73, hQ73, l73, y73, z73⟩, st73⟩ := Jvm.LawKit.callS X71 hx (y := (⟨"com/example/fencepost/fencepost/connector/SlotConfirmationIdlePinLaw", "max", "(JJ)J"⟩ : MethodName)) hown (mvT hZ (hw _ (List.mem_of_getElem? (i := 125) rfl))) (mvT hZ (hw _ (List.mem_of_getElem? (i := 126) rfl))) (mvT hZ (hw _ (List.mem_of_getElem? (i := 127) rfl))) (mvT hZ (hw _ (List.mem_of_getElem? (i := 128) rfl))) (by decide) (backOf (W := 2) (own_rm22 l Z a0 hw [] (0 : Int64) q_1  T54.heap n0 (by omega) ) hZ (hw _ (List.mem_of_getElem? (i := 128) rfl)) (hw _ (List.mem_of_getElem? (i := 127) rfl)) (by decide) (by decide)) (g := (mkF m 47 #[.val (.long q_1), .second, .val (.long q_2), .second, .val (.long q_3), .second, .val (.int p_4), .val (.int (0 : Int32)), .val (.ref b2), .val (.long v64), .second, .unset, .unset, .unset, .unset] [(.long q_1), (.long (0 : Int64)), (.long v64)])) rfl (by rw [hml]; rfl) (argsL := [(.long (0 : Int64)), (.long q_1)]) (rest := [(.long v64)]) (lenOf own_pd8 rfl) rfl (by show 2 * 0 + _ ≤ _; exact Nat.le_of_eq rfl) (hb hby at_47) (fun _ _ => ⟨rfl, e71, (by show k71 + _ ≤ _; rw [y71]; decide), (by show n71 + _ ≤ _; rw [z71]; decide)⟩)
    dsimp only [Pt.U, Pt.locs, Pt.cells, Pt.slots] at X73 l73 y73 z73 st73 hQ73
    have y73 : k73 = 4 := own_addeq y73 (congrArg (fun q => q) y71) rfl
    have z73 : n73 = 25 := own_addeq z73 (congrArg (fun q => q) z71) rfl
    obtain ⟨r74, rfl, N73q, hr_r74, e73⟩ := hQ73
    have N73 : Fr n0 L73 := by rw [l73]; exact Fr.app N71 N73q
    refine own_go (fun _ k => st73 _ k) ?_
    show own_Go _ _ _ _ T73 (mkF m 50 #[.val (.long q_1), .second, .val (.long q_2), .second, .val (.long q_3), .second, .val (.int p_4), .val (.int (0 : Int32)), .val (.ref b2), .val (.long v64), .second, .unset, .unset, .unset, .unset] [(.long r74), (.long v64)])
    refine own_go (fun _ k => XS.lcmp X73.here hx rfl (hb hby at_50) rfl k) ?_
    show own_Go _ _ _ _ T73 (mkF m 51 #[.val (.long q_1), .second, .val (.long q_2), .second, .val (.long q_3), .second, .val (.int p_4), .val (.int (0 : Int32)), .val (.ref b2), .val (.long v64), .second, .unset, .unset, .unset, .unset] [(.int (lcmpW v64 r74))])
    have hc75 : v64 = r74 := own_t0_0 q_1 v64 r74 hdv64 hr_r74
    refine own_go (fun _ k => XS.ifYes X73.here hx rfl (pc0 := 51) (pc' := 56) rfl (hb hby at_51) rfl (Jvm.Free.XT.ll_eq_t hc75) (by decide) (by decide) k) ?_
    show own_Go _ _ _ _ T73 (mkF m 56 #[.val (.long q_1), .second, .val (.long q_2), .second, .val (.long q_3), .second, .val (.int p_4), .val (.int (0 : Int32)), .val (.ref b2), .val (.long v64), .second, .unset, .unset, .unset, .unset] [])
    refine own_go (fun _ k => XS.iload X73.here hx rfl (hb hby at_56) rfl k) ?_
    show own_Go _ _ _ _ T73 (mkF m 58 #[.val (.long q_1), .second, .val (.long q_2), .second, .val (.long q_3), .second, .val (.int p_4), .val (.int (0 : Int32)), .val (.ref b2), .val (.long v64), .second, .unset, .unset, .unset, .unset] [(.int (0 : Int32))])
    have hc76 : (0 : Int32) = 0 := by decide
    refine own_go (fun _ k => XS.ifYes X73.here hx rfl (pc0 := 58) (pc' := 69) rfl (hb hby at_58) rfl (Jvm.Free.XT.i0_eq_t hc76) (by decide) (by decide) k) ?_
    show own_Go _ _ _ _ T73 (mkF m 69 #[.val (.long q_1), .second, .val (.long q_2), .second, .val (.long q_3), .second, .val (.int p_4), .val (.int (0 : Int32)), .val (.ref b2), .val (.long v64), .second, .unset, .unset, .unset, .unset] [])
    refine own_go (fun _ k => XS.aload X73.here hx rfl (hb hby at_69) rfl rfl k) ?_
    show own_Go _ _ _ _ T73 (mkF m 71 #[.val (.long q_1), .second, .val (.long q_2), .second, .val (.long q_3), .second, .val (.int p_4), .val (.int (0 : Int32)), .val (.ref b2), .val (.long v64), .second, .unset, .unset, .unset, .unset] [(.ref b2)])
    refine own_go (fun _ k => XS.lloadN X73.here hx rfl (hb hby at_71) rfl k) ?_
    show own_Go _ _ _ _ T73 (mkF m 72 #[.val (.long q_1), .second, .val (.long q_2), .second, .val (.long q_3), .second, .val (.int p_4), .val (.int (0 : Int32)), .val (.ref b2), .val (.long v64), .second, .unset, .unset, .unset, .unset] [(.long q_2), (.ref b2)])
    obtain ⟨cq77, kq77, q77a, q77b, q77c⟩ := isOf hZ e73 f72
    obtain ⟨_, _, ⟨T77, L77, k77, n77⟩, -, X77, ⟨Lc77, hQ77, l77, y77, z77⟩, st77⟩ := X73.virtualBack hx (y := (⟨"com/example/fencepost/fencepost/connector/SlotConfirmation", "idle", "(J)V"⟩ : MethodName)) (z := (⟨"com/example/fencepost/fencepost/connector/SlotConfirmation", "idle", "(J)V"⟩ : MethodName)) hown (mvT hZ (hw _ (List.mem_of_getElem? (i := 129) rfl))) (mvT hZ (hw _ (List.mem_of_getElem? (i := 130) rfl))) (notFace_of_selects (args := #[]) (mvT hZ (hw _ (List.mem_of_getElem? (i := 132) rfl)))) (mvT hZ (hw _ (List.mem_of_getElem? (i := 132) rfl))) (mvT hZ (hw _ (List.mem_of_getElem? (i := 131) rfl))) (by decide) (backOf (W := 0) (own_rm23_e l Z a0 hw [] b2 q_2 x_5 v64 T54.heap n0 (by omega) f72 f55 f56 f57 f59 f60 (by omega)) hZ (hw _ (List.mem_of_getElem? (i := 133) rfl)) (hw _ (List.mem_of_getElem? (i := 2) rfl)) (by decide) (by decide)) q77a q77c (g := (mkF m 72 #[.val (.long q_1), .second, .val (.long q_2), .second, .val (.long q_3), .second, .val (.int p_4), .val (.int (0 : Int32)), .val (.ref b2), .val (.long v64), .second, .unset, .unset, .unset, .unset] [(.long q_2), (.ref b2)])) rfl (by rw [hml]; rfl) (Steps.refl _) (argsL := [(.long q_2)]) (rest := []) (lenOf own_pd9 rfl) rfl (by show 2 * 0 + _ ≤ _; exact Nat.le_of_eq rfl) (hb hby at_72) (fun _ _ => ⟨rfl, e73, (by show k73 + _ ≤ _; rw [y73]; decide), (by show n73 + _ ≤ _; rw [z73]; decide)⟩)
    dsimp only [Pt.U, Pt.locs, Pt.cells, Pt.slots] at X77 l77 y77 z77 st77 hQ77
    have y77 : k77 = 4 := own_addeq y77 (congrArg (fun q => q) y73) rfl
    have z77 : n77 = 25 := own_addeq z77 (congrArg (fun q => q) z73) rfl
    obtain ⟨rfl, N77q, K77q, f78, f79⟩ := hQ77
    have N77 : Fr n0 L77 := by rw [l77]; exact Fr.app N73 N77q
    have z80 := K77q.1
    have K77 : Keep h0 T77.heap [] := K54.trans K77q (allS (Or.inr (by omega)) all0)
    have z81 := own_lt f78.lt
    obtain ⟨v82, hdv82⟩ : ∃ z : Int64, z = (own_rm20_ret v64 q_2) := ⟨_, rfl⟩
    rw [← hdv82] at f79
    have z83 := own_lt f79.lt
    refine own_go (fun _ k => st77.trans k) ?_
    show own_Go _ _ _ _ T77 (mkF m 75 #[.val (.long q_1), .second, .val (.long q_2), .second, .val (.long q_3), .second, .val (.int p_4), .val (.int (0 : Int32)), .val (.ref b2), .val (.long v64), .second, .unset, .unset, .unset, .unset] [])
    refine own_go (fun _ k => XS.aload X77.here hx rfl (hb hby at_75) rfl rfl k) ?_
    show own_Go _ _ _ _ T77 (mkF m 77 #[.val (.long q_1), .second, .val (.long q_2), .second, .val (.long q_3), .second, .val (.int p_4), .val (.int (0 : Int32)), .val (.ref b2), .val (.long v64), .second, .unset, .unset, .unset, .unset] [(.ref b2)])
    have f85 : Exa Z T77.heap b2 "com/example/fencepost/fencepost/connector/SlotConfirmation" := (f72.keep K77q)
    obtain ⟨cq84, kq84, q84a, q84b, q84c⟩ := isOf hZ rfl f85
    obtain ⟨_, _, ⟨T84, L84, k84, n84⟩, -, X84, ⟨Lc84, hQ84, l84, y84, z84⟩, st84⟩ := X77.virtualBack hx (y := (⟨"com/example/fencepost/fencepost/connector/SlotConfirmation", "position", "()J"⟩ : MethodName)) (z := (⟨"com/example/fencepost/fencepost/connector/SlotConfirmation", "position", "()J"⟩ : MethodName)) hown (mvT hZ (hw _ (List.mem_of_getElem? (i := 120) rfl))) (mvT hZ (hw _ (List.mem_of_getElem? (i := 121) rfl))) (notFace_of_selects (args := #[]) (mvT hZ (hw _ (List.mem_of_getElem? (i := 123) rfl)))) (mvT hZ (hw _ (List.mem_of_getElem? (i := 123) rfl))) (mvT hZ (hw _ (List.mem_of_getElem? (i := 122) rfl))) (by decide) (backOf (W := 0) (own_rm21 l Z a0 hw [] b2 v82 T77.heap n0 (by omega) f79) hZ (hw _ (List.mem_of_getElem? (i := 124) rfl)) (hw _ (List.mem_of_getElem? (i := 2) rfl)) (by decide) (by decide)) q84a q84c (g := (mkF m 77 #[.val (.long q_1), .second, .val (.long q_2), .second, .val (.long q_3), .second, .val (.int p_4), .val (.int (0 : Int32)), .val (.ref b2), .val (.long v64), .second, .unset, .unset, .unset, .unset] [(.ref b2)])) rfl (by rw [hml]; rfl) (Steps.refl _) (argsL := []) (rest := []) (lenOf own_pd10 rfl) rfl (by show 2 * 0 + _ ≤ _; exact Nat.le_of_eq rfl) (hb hby at_77) (fun _ _ => ⟨rfl, rfl, (by show k77 + _ ≤ _; rw [y77]; decide), (by show n77 + _ ≤ _; rw [z77]; decide)⟩)
    dsimp only [Pt.U, Pt.locs, Pt.cells, Pt.slots] at X84 l84 y84 z84 st84 hQ84
    have y84 : k84 = 4 := own_addeq y84 (congrArg (fun q => q) y77) rfl
    have z84 : n84 = 25 := own_addeq z84 (congrArg (fun q => q) z77) rfl
    obtain ⟨rfl, N84q, e84⟩ := hQ84
    have N84 : Fr n0 L84 := by rw [l84]; exact Fr.app N77 N84q
    refine own_go (fun _ k => st84.trans k) ?_
    show own_Go _ _ _ _ T84 (mkF m 80 #[.val (.long q_1), .second, .val (.long q_2), .second, .val (.long q_3), .second, .val (.int p_4), .val (.int (0 : Int32)), .val (.ref b2), .val (.long v64), .second, .unset, .unset, .unset, .unset] [(.long v82)])
    refine own_go (fun _ k => XS.lstore X84.here hx rfl (hb hby at_80) rfl (l' := #[.val (.long q_1), .second, .val (.long q_2), .second, .val (.long q_3), .second, .val (.int p_4), .val (.int (0 : Int32)), .val (.ref b2), .val (.long v64), .second, .val (.long v82), .second, .unset, .unset]) rfl k) ?_
    show own_Go _ _ _ _ T84 (mkF m 82 #[.val (.long q_1), .second, .val (.long q_2), .second, .val (.long q_3), .second, .val (.int p_4), .val (.int (0 : Int32)), .val (.ref b2), .val (.long v64), .second, .val (.long v82), .second, .unset, .unset] [])
    refine own_go (fun _ k => XS.iload X84.here hx rfl (hb hby at_82) rfl k) ?_
    show own_Go _ _ _ _ T84 (mkF m 84 #[.val (.long q_1), .second, .val (.long q_2), .second, .val (.long q_3), .second, .val (.int p_4), .val (.int (0 : Int32)), .val (.ref b2), .val (.long v64), .second, .val (.long v82), .second, .unset, .unset] [(.int (0 : Int32))])
    have hc86 : (0 : Int32) = 0 := by decide
    refine own_go (fun _ k => XS.ifYes X84.here hx rfl (pc0 := 84) (pc' := 94) rfl (hb hby at_84) rfl (Jvm.Free.XT.i0_eq_t hc86) (by decide) (by decide) k) ?_
    show own_Go _ _ _ _ T84 (mkF m 94 #[.val (.long q_1), .second, .val (.long q_2), .second, .val (.long q_3), .second, .val (.int p_4), .val (.int (0 : Int32)), .val (.ref b2), .val (.long v64), .second, .val (.long v82), .second, .unset, .unset] [])
    refine own_go (fun _ k => XS.lloadN X84.here hx rfl (hb hby at_94) rfl k) ?_
    show own_Go _ _ _ _ T84 (mkF m 95 #[.val (.long q_1), .second, .val (.long q_2), .second, .val (.long q_3), .second, .val (.int p_4), .val (.int (0 : Int32)), .val (.ref b2), .val (.long v64), .second, .val (.long v82), .second, .unset, .unset] [(.long q_2)])
    refine own_go (fun _ k => XS.lload X84.here hx rfl (hb hby at_95) rfl k) ?_
    show own_Go _ _ _ _ T84 (mkF m 97 #[.val (.long q_1), .second, .val (.long q_2), .second, .val (.long q_3), .second, .val (.int p_4), .val (.int (0 : Int32)), .val (.ref b2), .val (.long v64), .second, .val (.long v82), .second, .unset, .unset] [(.long v64), (.long q_2)])
    refine own_go (fun _ k => XS.lcmp X84.here hx rfl (hb hby at_97) rfl k) ?_
    show own_Go _ _ _ _ T84 (mkF m 98 #[.val (.long q_1), .second, .val (.long q_2), .second, .val (.long q_3), .second, .val (.int p_4), .val (.int (0 : Int32)), .val (.ref b2), .val (.long v64), .second, .val (.long v82), .second, .unset, .unset] [(.int (lcmpW q_2 v64))])
    by_cases hc87 : v64 < q_2
    · refine own_go (fun _ k => XS.ifNo X84.here hx rfl (hb hby at_98) rfl (Jvm.Free.XT.ll_le_f hc87) k) ?_
      show own_Go _ _ _ _ T84 (mkF m 101 #[.val (.long q_1), .second, .val (.long q_2), .second, .val (.long q_3), .second, .val (.int p_4), .val (.int (0 : Int32)), .val (.ref b2), .val (.long v64), .second, .val (.long v82), .second, .unset, .unset] [])
      refine own_go (fun _ k => XS.lloadN X84.here hx rfl (hb hby at_101) rfl k) ?_
      show own_Go _ _ _ _ T84 (mkF m 102 #[.val (.long q_1), .second, .val (.long q_2), .second, .val (.long q_3), .second, .val (.int p_4), .val (.int (0 : Int32)), .val (.ref b2), .val (.long v64), .second, .val (.long v82), .second, .unset, .unset] [(.long q_2)])
      refine own_go (fun _ k => XS.lstore X84.here hx rfl (hb hby at_102) rfl (l' := #[.val (.long q_1), .second, .val (.long q_2), .second, .val (.long q_3), .second, .val (.int p_4), .val (.int (0 : Int32)), .val (.ref b2), .val (.long v64), .second, .val (.long v82), .second, .val (.long q_2), .second]) rfl k) ?_
      show own_Go _ _ _ _ T84 (mkF m 104 #[.val (.long q_1), .second, .val (.long q_2), .second, .val (.long q_3), .second, .val (.int p_4), .val (.int (0 : Int32)), .val (.ref b2), .val (.long v64), .second, .val (.long v82), .second, .val (.long q_2), .second] [])
      refine own_go (fun _ k => XS.goto X84.here hx rfl (pc0 := 104) (pc' := 111) rfl (hb hby at_104) (by decide) (by decide) k) ?_
      show own_Go _ _ _ _ T84 (mkF m 111 #[.val (.long q_1), .second, .val (.long q_2), .second, .val (.long q_3), .second, .val (.int p_4), .val (.int (0 : Int32)), .val (.ref b2), .val (.long v64), .second, .val (.long v82), .second, .val (.long q_2), .second] [])
      refine own_go (fun _ k => XS.lload X84.here hx rfl (hb hby at_111) rfl k) ?_
      show own_Go _ _ _ _ T84 (mkF m 113 #[.val (.long q_1), .second, .val (.long q_2), .second, .val (.long q_3), .second, .val (.int p_4), .val (.int (0 : Int32)), .val (.ref b2), .val (.long v64), .second, .val (.long v82), .second, .val (.long q_2), .second] [(.long v82)])
      refine own_go (fun _ k => XS.lload X84.here hx rfl (hb hby at_113) rfl k) ?_
      show own_Go _ _ _ _ T84 (mkF m 115 #[.val (.long q_1), .second, .val (.long q_2), .second, .val (.long q_3), .second, .val (.int p_4), .val (.int (0 : Int32)), .val (.ref b2), .val (.long v64), .second, .val (.long v82), .second, .val (.long q_2), .second] [(.long q_2), (.long v82)])
      refine own_go (fun _ k => XS.lcmp X84.here hx rfl (hb hby at_115) rfl k) ?_
      show own_Go _ _ _ _ T84 (mkF m 116 #[.val (.long q_1), .second, .val (.long q_2), .second, .val (.long q_3), .second, .val (.int p_4), .val (.int (0 : Int32)), .val (.ref b2), .val (.long v64), .second, .val (.long v82), .second, .val (.long q_2), .second] [(.int (lcmpW v82 q_2))])
      have hc88 : v82 = q_2 := own_t0_1 q_1 q_2 v64 r74 v82 hdv64 hr_r74 hc75 hdv82 hc87
      refine own_go (fun _ k => XS.ifYes X84.here hx rfl (pc0 := 116) (pc' := 121) rfl (hb hby at_116) rfl (Jvm.Free.XT.ll_eq_t hc88) (by decide) (by decide) k) ?_
      show own_Go _ _ _ _ T84 (mkF m 121 #[.val (.long q_1), .second, .val (.long q_2), .second, .val (.long q_3), .second, .val (.int p_4), .val (.int (0 : Int32)), .val (.ref b2), .val (.long v64), .second, .val (.long v82), .second, .val (.long q_2), .second] [])
      refine own_go (fun _ k => XS.iload X84.here hx rfl (hb hby at_121) rfl k) ?_
      show own_Go _ _ _ _ T84 (mkF m 123 #[.val (.long q_1), .second, .val (.long q_2), .second, .val (.long q_3), .second, .val (.int p_4), .val (.int (0 : Int32)), .val (.ref b2), .val (.long v64), .second, .val (.long v82), .second, .val (.long q_2), .second] [(.int (0 : Int32))])
      have hc89 : (0 : Int32) = 0 := by decide
      refine own_go (fun _ k => XS.ifYes X84.here hx rfl (pc0 := 123) (pc' := 154) rfl (hb hby at_123) rfl (Jvm.Free.XT.i0_eq_t hc89) (by decide) (by decide) k) ?_
      show own_Go _ _ _ _ T84 (mkF m 154 #[.val (.long q_1), .second, .val (.long q_2), .second, .val (.long q_3), .second, .val (.int p_4), .val (.int (0 : Int32)), .val (.ref b2), .val (.long v64), .second, .val (.long v82), .second, .val (.long q_2), .second] [])
      refine own_go (fun _ k => XS.iconst X84.here hx rfl (hb hby at_154) k) ?_
      show own_Go _ _ _ _ T84 (mkF m 155 #[.val (.long q_1), .second, .val (.long q_2), .second, .val (.long q_3), .second, .val (.int p_4), .val (.int (0 : Int32)), .val (.ref b2), .val (.long v64), .second, .val (.long v82), .second, .val (.long q_2), .second] [(.int (1 : Int32))])
      obtain ⟨fs, hr, hrun, hended, hW, hsame⟩ := X84.leave (v := some (.int (1 : Int32))) (fun h => by rw [Bd.returns] at h; cases h)
      refine ⟨_, _, retOut X84 hx Bd.returns rfl (Or.inl ⟨rfl, Or.inr (Or.inl rfl), _, rfl⟩) (hb hby at_155) hr, hrun, hended, _, _, rfl, ?_, ⟨_, rfl⟩, hW, hsame.mono (by rw [y84]; decide) (by rw [z84]; decide)⟩
      show own_Q0 Z q_1 q_2 q_3 p_4 h0 n0 _ T84.heap _
      rw [e84]
      exact ⟨rfl, N84⟩
    · refine own_go (fun _ k => XS.ifYes X84.here hx rfl (pc0 := 98) (pc' := 107) rfl (hb hby at_98) rfl (Jvm.Free.XT.ll_le_t hc87) (by decide) (by decide) k) ?_
      show own_Go _ _ _ _ T84 (mkF m 107 #[.val (.long q_1), .second, .val (.long q_2), .second, .val (.long q_3), .second, .val (.int p_4), .val (.int (0 : Int32)), .val (.ref b2), .val (.long v64), .second, .val (.long v82), .second, .unset, .unset] [])
      refine own_go (fun _ k => XS.lload X84.here hx rfl (hb hby at_107) rfl k) ?_
      show own_Go _ _ _ _ T84 (mkF m 109 #[.val (.long q_1), .second, .val (.long q_2), .second, .val (.long q_3), .second, .val (.int p_4), .val (.int (0 : Int32)), .val (.ref b2), .val (.long v64), .second, .val (.long v82), .second, .unset, .unset] [(.long v64)])
      refine own_go (fun _ k => XS.lstore X84.here hx rfl (hb hby at_109) rfl (l' := #[.val (.long q_1), .second, .val (.long q_2), .second, .val (.long q_3), .second, .val (.int p_4), .val (.int (0 : Int32)), .val (.ref b2), .val (.long v64), .second, .val (.long v82), .second, .val (.long v64), .second]) rfl k) ?_
      show own_Go _ _ _ _ T84 (mkF m 111 #[.val (.long q_1), .second, .val (.long q_2), .second, .val (.long q_3), .second, .val (.int p_4), .val (.int (0 : Int32)), .val (.ref b2), .val (.long v64), .second, .val (.long v82), .second, .val (.long v64), .second] [])
      refine own_go (fun _ k => XS.lload X84.here hx rfl (hb hby at_111) rfl k) ?_
      show own_Go _ _ _ _ T84 (mkF m 113 #[.val (.long q_1), .second, .val (.long q_2), .second, .val (.long q_3), .second, .val (.int p_4), .val (.int (0 : Int32)), .val (.ref b2), .val (.long v64), .second, .val (.long v82), .second, .val (.long v64), .second] [(.long v82)])
      refine own_go (fun _ k => XS.lload X84.here hx rfl (hb hby at_113) rfl k) ?_
      show own_Go _ _ _ _ T84 (mkF m 115 #[.val (.long q_1), .second, .val (.long q_2), .second, .val (.long q_3), .second, .val (.int p_4), .val (.int (0 : Int32)), .val (.ref b2), .val (.long v64), .second, .val (.long v82), .second, .val (.long v64), .second] [(.long v64), (.long v82)])
      refine own_go (fun _ k => XS.lcmp X84.here hx rfl (hb hby at_115) rfl k) ?_
      show own_Go _ _ _ _ T84 (mkF m 116 #[.val (.long q_1), .second, .val (.long q_2), .second, .val (.long q_3), .second, .val (.int p_4), .val (.int (0 : Int32)), .val (.ref b2), .val (.long v64), .second, .val (.long v82), .second, .val (.long v64), .second] [(.int (lcmpW v82 v64))])
      have hc91 : v82 = v64 := own_t0_2 q_1 q_2 v64 r74 v82 hdv64 hr_r74 hc75 hdv82 hc87
      refine own_go (fun _ k => XS.ifYes X84.here hx rfl (pc0 := 116) (pc' := 121) rfl (hb hby at_116) rfl (Jvm.Free.XT.ll_eq_t hc91) (by decide) (by decide) k) ?_
      show own_Go _ _ _ _ T84 (mkF m 121 #[.val (.long q_1), .second, .val (.long q_2), .second, .val (.long q_3), .second, .val (.int p_4), .val (.int (0 : Int32)), .val (.ref b2), .val (.long v64), .second, .val (.long v82), .second, .val (.long v64), .second] [])
      refine own_go (fun _ k => XS.iload X84.here hx rfl (hb hby at_121) rfl k) ?_
      show own_Go _ _ _ _ T84 (mkF m 123 #[.val (.long q_1), .second, .val (.long q_2), .second, .val (.long q_3), .second, .val (.int p_4), .val (.int (0 : Int32)), .val (.ref b2), .val (.long v64), .second, .val (.long v82), .second, .val (.long v64), .second] [(.int (0 : Int32))])
      have hc92 : (0 : Int32) = 0 := by decide
      refine own_go (fun _ k => XS.ifYes X84.here hx rfl (pc0 := 123) (pc' := 154) rfl (hb hby at_123) rfl (Jvm.Free.XT.i0_eq_t hc92) (by decide) (by decide) k) ?_
      show own_Go _ _ _ _ T84 (mkF m 154 #[.val (.long q_1), .second, .val (.long q_2), .second, .val (.long q_3), .second, .val (.int p_4), .val (.int (0 : Int32)), .val (.ref b2), .val (.long v64), .second, .val (.long v82), .second, .val (.long v64), .second] [])
      refine own_go (fun _ k => XS.iconst X84.here hx rfl (hb hby at_154) k) ?_
      show own_Go _ _ _ _ T84 (mkF m 155 #[.val (.long q_1), .second, .val (.long q_2), .second, .val (.long q_3), .second, .val (.int p_4), .val (.int (0 : Int32)), .val (.ref b2), .val (.long v64), .second, .val (.long v82), .second, .val (.long v64), .second] [(.int (1 : Int32))])
      obtain ⟨fs, hr, hrun, hended, hW, hsame⟩ := X84.leave (v := some (.int (1 : Int32))) (fun h => by rw [Bd.returns] at h; cases h)
      refine ⟨_, _, retOut X84 hx Bd.returns rfl (Or.inl ⟨rfl, Or.inr (Or.inl rfl), _, rfl⟩) (hb hby at_155) hr, hrun, hended, _, _, rfl, ?_, ⟨_, rfl⟩, hW, hsame.mono (by rw [y84]; decide) (by rw [z84]; decide)⟩
      show own_Q0 Z q_1 q_2 q_3 p_4 h0 n0 _ T84.heap _
      rw [e84]
      exact ⟨rfl, N84⟩
  · refine own_go (fun _ k => XS.ifNo X0.here hx rfl (hb hby at_4) rfl (Jvm.Free.XT.i0_eq_f hc1) k) ?_
    show own_Go _ _ _ _ s₁ (mkF m 7 #[.val (.long q_1), .second, .val (.long q_2), .second, .val (.long q_3), .second, .val (.int p_4), .unset, .unset, .unset, .unset, .unset, .unset, .unset, .unset] [])
    refine own_go (fun _ k => XS.iconst X0.here hx rfl (hb hby at_7) k) ?_
    show own_Go _ _ _ _ s₁ (mkF m 8 #[.val (.long q_1), .second, .val (.long q_2), .second, .val (.long q_3), .second, .val (.int p_4), .unset, .unset, .unset, .unset, .unset, .unset, .unset, .unset] [(.int (1 : Int32))])
    refine own_go (fun _ k => XS.goto X0.here hx rfl (pc0 := 8) (pc' := 12) rfl (hb hby at_8) (by decide) (by decide) k) ?_
    show own_Go _ _ _ _ s₁ (mkF m 12 #[.val (.long q_1), .second, .val (.long q_2), .second, .val (.long q_3), .second, .val (.int p_4), .unset, .unset, .unset, .unset, .unset, .unset, .unset, .unset] [(.int (1 : Int32))])
    refine own_go (fun _ k => XS.istore X0.here hx rfl (hb hby at_12) rfl (l' := #[.val (.long q_1), .second, .val (.long q_2), .second, .val (.long q_3), .second, .val (.int p_4), .val (.int (1 : Int32)), .unset, .unset, .unset, .unset, .unset, .unset, .unset]) rfl k) ?_
    show own_Go _ _ _ _ s₁ (mkF m 14 #[.val (.long q_1), .second, .val (.long q_2), .second, .val (.long q_3), .second, .val (.int p_4), .val (.int (1 : Int32)), .unset, .unset, .unset, .unset, .unset, .unset, .unset] [])
    obtain ⟨T94, h94, X94, e94, E94, A94, D94, Y94, st94⟩ := newO X0 hx hZ hown (hw _ (List.mem_of_getElem? (i := 0) rfl)) (hw _ (List.mem_of_getElem? (i := 1) rfl)) (hw _ (List.mem_of_getElem? (i := 2) rfl)) e0 (g := (mkF m 14 #[.val (.long q_1), .second, .val (.long q_2), .second, .val (.long q_3), .second, .val (.int p_4), .val (.int (1 : Int32)), .unset, .unset, .unset, .unset, .unset, .unset, .unset] [])) rfl (hb hby at_14) (by decide) (by decide)
    obtain ⟨b94, g94⟩ : ∃ z, z = h0.size := ⟨_, rfl⟩
    rw [← g94] at A94 D94 Y94 st94
    have z95 := E94.1
    have lt_b94 := own_lt A94.lt
    have K94 : Keep h0 h94 [] := K0.ext E94
    have F_unstored_b94 : Fld Z h94 b94 "com/example/fencepost/fencepost/connector/SlotConfirmation" "unstored" "Ljava/util/ArrayDeque;" .null := D94 (Or.inr (hw _ (List.mem_of_getElem? (i := 27) rfl))) (ty := (.object "java/util/ArrayDeque")) (by decide)
    have F_position_b94 : Fld Z h94 b94 "com/example/fencepost/fencepost/connector/SlotConfirmation" "position" "J" (.long (0 : Int64)) := D94 (Or.inl (hw _ (List.mem_of_getElem? (i := 104) rfl))) (ty := .long) (by decide)
    refine own_go (fun _ k => st94 _ k) ?_
    show own_Go _ _ _ _ T94 (mkF m 17 #[.val (.long q_1), .second, .val (.long q_2), .second, .val (.long q_3), .second, .val (.int p_4), .val (.int (1 : Int32)), .unset, .unset, .unset, .unset, .unset, .unset, .unset] [(.ref b94)])
    refine own_go (fun _ k => XS.dup X94.here hx rfl (hb hby at_17) rfl rfl k) ?_
    show own_Go _ _ _ _ T94 (mkF m 18 #[.val (.long q_1), .second, .val (.long q_2), .second, .val (.long q_3), .second, .val (.int p_4), .val (.int (1 : Int32)), .unset, .unset, .unset, .unset, .unset, .unset, .unset] [(.ref b94), (.ref b94)])
    obtain ⟨_, _, ⟨T96, L96, k96, n96⟩, -, X96, ⟨Lc96, hQ96, l96, y96, z96⟩, st96⟩ := X94.specialBack hx (y := (⟨"com/example/fencepost/fencepost/connector/SlotConfirmation", "<init>", "()V"⟩ : MethodName)) rfl hown (mvT hZ (hw _ (List.mem_of_getElem? (i := 3) rfl))) (mvT hZ (hw _ (List.mem_of_getElem? (i := 4) rfl))) (mvT hZ (hw _ (List.mem_of_getElem? (i := 5) rfl))) (by decide) (backOf (W := 1) (own_rm1 l Z a0 hw [] b94 .null (0 : Int64) h94 n0 (by omega) A94 F_unstored_b94 F_position_b94 (by omega)) hZ (hw _ (List.mem_of_getElem? (i := 5) rfl)) (hw _ (List.mem_of_getElem? (i := 2) rfl)) (by decide) (by decide)) (g := (mkF m 18 #[.val (.long q_1), .second, .val (.long q_2), .second, .val (.long q_3), .second, .val (.int p_4), .val (.int (1 : Int32)), .unset, .unset, .unset, .unset, .unset, .unset, .unset] [(.ref b94), (.ref b94)])) rfl (by rw [hml]; rfl) (Steps.refl _) (a := b94) (argsL := []) (rest := [(.ref b94)]) (lenOf own_pd4 rfl) rfl (by show 2 * 0 + _ ≤ _; exact Nat.le_of_eq rfl) (hb hby at_18) (fun _ _ => ⟨rfl, e94, (by decide : 1 + 2 ≤ _), (by decide : 2 + 20 ≤ _)⟩)
    dsimp only [Pt.U, Pt.locs, Pt.cells, Pt.slots] at X96 l96 y96 z96 st96 hQ96
    have y96 : k96 = 3 := y96
    have z96 : n96 = 22 := z96
    obtain ⟨x_97, x_98, rfl, N96q, K96q, f99, f100, f101, f102, f103, f104, f105, f106, f107, f108, f109, f110⟩ := hQ96
    have N96 : Fr n0 L96 := by rw [l96]; exact Fr.app N0 N96q
    have z111 := K96q.1
    have K96 : Keep h0 T96.heap [] := K94.trans K96q (allS (Or.inr (by omega)) all0)
    have z112 := own_lt f99.lt
    have z113 := own_lt f100.lt
    have z114 := own_lt f101.lt
    have z115 := own_lt f102.lt
    have z116 := own_lt f103.lt
    have z117 := own_lt f104.lt
    have z118 := own_lt f105.lt
    have z119 := own_lt f106.lt
    have z120 := own_lt f107.lt
    simp only [own_lts, and_true] at f110
    refine own_go (fun _ k => st96.trans k) ?_
    show own_Go _ _ _ _ T96 (mkF m 21 #[.val (.long q_1), .second, .val (.long q_2), .second, .val (.long q_3), .second, .val (.int p_4), .val (.int (1 : Int32)), .unset, .unset, .unset, .unset, .unset, .unset, .unset] [(.ref b94)])
    refine own_go (fun _ k => XS.astore X96.here hx rfl (hb hby at_21) rfl rfl (l' := #[.val (.long q_1), .second, .val (.long q_2), .second, .val (.long q_3), .second, .val (.int p_4), .val (.int (1 : Int32)), .val (.ref b94), .unset, .unset, .unset, .unset, .unset, .unset]) rfl k) ?_
    show own_Go _ _ _ _ T96 (mkF m 23 #[.val (.long q_1), .second, .val (.long q_2), .second, .val (.long q_3), .second, .val (.int p_4), .val (.int (1 : Int32)), .val (.ref b94), .unset, .unset, .unset, .unset, .unset, .unset] [])
    refine own_go (fun _ k => XS.aload X96.here hx rfl (hb hby at_23) rfl rfl k) ?_
    show own_Go _ _ _ _ T96 (mkF m 25 #[.val (.long q_1), .second, .val (.long q_2), .second, .val (.long q_3), .second, .val (.int p_4), .val (.int (1 : Int32)), .val (.ref b94), .unset, .unset, .unset, .unset, .unset, .unset] [(.ref b94)])
    refine own_go (fun _ k => XS.lloadN X96.here hx rfl (hb hby at_25) rfl k) ?_
    show own_Go _ _ _ _ T96 (mkF m 26 #[.val (.long q_1), .second, .val (.long q_2), .second, .val (.long q_3), .second, .val (.int p_4), .val (.int (1 : Int32)), .val (.ref b94), .unset, .unset, .unset, .unset, .unset, .unset] [(.long q_1), (.ref b94)])
    refine own_go (fun _ k => XS.lconst X96.here hx rfl (hb hby at_26) k) ?_
    show own_Go _ _ _ _ T96 (mkF m 27 #[.val (.long q_1), .second, .val (.long q_2), .second, .val (.long q_3), .second, .val (.int p_4), .val (.int (1 : Int32)), .val (.ref b94), .unset, .unset, .unset, .unset, .unset, .unset] [(.long (0 : Int64)), (.long q_1), (.ref b94)])
    obtain ⟨cq121, kq121, q121a, q121b, q121c⟩ := isOf hZ rfl f99
    obtain ⟨_, _, ⟨T121, L121, k121, n121⟩, -, X121, ⟨Lc121, hQ121, l121, y121, z121⟩, st121⟩ := X96.virtualBack hx (y := (⟨"com/example/fencepost/fencepost/connector/SlotConfirmation", "began", "(JJ)V"⟩ : MethodName)) (z := (⟨"com/example/fencepost/fencepost/connector/SlotConfirmation", "began", "(JJ)V"⟩ : MethodName)) hown (mvT hZ (hw _ (List.mem_of_getElem? (i := 28) rfl))) (mvT hZ (hw _ (List.mem_of_getElem? (i := 29) rfl))) (notFace_of_selects (args := #[]) (mvT hZ (hw _ (List.mem_of_getElem? (i := 31) rfl)))) (mvT hZ (hw _ (List.mem_of_getElem? (i := 31) rfl))) (mvT hZ (hw _ (List.mem_of_getElem? (i := 30) rfl))) (by decide) (backOf (W := 0) (own_rm5_0 l Z a0 hw [] b94 q_1 x_97 x_98 (fun _ => .null) T96.heap n0 (by omega) f99 f100 f102 f103 f105 f104 f106 f107 rfl (by simp only [own_lts, and_true]; omega) (by omega) (by omega)) hZ (hw _ (List.mem_of_getElem? (i := 32) rfl)) (hw _ (List.mem_of_getElem? (i := 2) rfl)) (by decide) (by decide)) q121a q121c (g := (mkF m 27 #[.val (.long q_1), .second, .val (.long q_2), .second, .val (.long q_3), .second, .val (.int p_4), .val (.int (1 : Int32)), .val (.ref b94), .unset, .unset, .unset, .unset, .unset, .unset] [(.long (0 : Int64)), (.long q_1), (.ref b94)])) rfl (by rw [hml]; rfl) (Steps.refl _) (argsL := [(.long q_1), (.long (0 : Int64))]) (rest := []) (lenOf own_pd5 rfl) rfl (by show 2 * 0 + _ ≤ _; exact Nat.le_of_eq rfl) (hb hby at_27) (fun _ _ => ⟨rfl, rfl, (by show k96 + _ ≤ _; rw [y96]; decide), (by show n96 + _ ≤ _; rw [z96]; decide)⟩)
    dsimp only [Pt.U, Pt.locs, Pt.cells, Pt.slots] at X121 l121 y121 z121 st121 hQ121
    have y121 : k121 = 4 := own_addeq y121 (congrArg (fun q => q) y96) rfl
    have z121 : n121 = 25 := own_addeq z121 (congrArg (fun q => q) z96) rfl
    obtain ⟨x122, rfl, N121q, K121q, f123, f124, f125, f126, f127, f128, f129, f130, f131, f132⟩ := hQ121
    have N121 : Fr n0 L121 := by rw [l121]; exact Fr.app N96 N121q
    have z133 := K121q.1
    have K121 : Keep h0 T121.heap [] := K96.trans K121q (allS (Or.inr (by omega)) (allS (Or.inr (by omega)) all0))
    have z134 := own_lt f123.lt
    have z135 := own_lt f124.lt
    have z136 := own_lt f125.lt
    have z137 := own_lt f126.lt
    have z138 := own_lt f127.lt
    have z139 := own_lt f128.lt
    have z140 := own_lt f129.lt
    have z141 := own_lt f130.lt
    have z142 := own_lt f131.lt
    refine own_go (fun _ k => st121.trans k) ?_
    show own_Go _ _ _ _ T121 (mkF m 30 #[.val (.long q_1), .second, .val (.long q_2), .second, .val (.long q_3), .second, .val (.int p_4), .val (.int (1 : Int32)), .val (.ref b94), .unset, .unset, .unset, .unset, .unset, .unset] [])
    refine own_go (fun _ k => XS.aload X121.here hx rfl (hb hby at_30) rfl rfl k) ?_
    show own_Go _ _ _ _ T121 (mkF m 32 #[.val (.long q_1), .second, .val (.long q_2), .second, .val (.long q_3), .second, .val (.int p_4), .val (.int (1 : Int32)), .val (.ref b94), .unset, .unset, .unset, .unset, .unset, .unset] [(.ref b94)])
    refine own_go (fun _ k => XS.lconst X121.here hx rfl (hb hby at_32) k) ?_
    show own_Go _ _ _ _ T121 (mkF m 33 #[.val (.long q_1), .second, .val (.long q_2), .second, .val (.long q_3), .second, .val (.int p_4), .val (.int (1 : Int32)), .val (.ref b94), .unset, .unset, .unset, .unset, .unset, .unset] [(.long (0 : Int64)), (.ref b94)])
    have f143 : Exa Z T121.heap b94 "com/example/fencepost/fencepost/connector/SlotConfirmation" := (f99.keep K121q)
    have f144 : Fld Z T121.heap b94 "com/example/fencepost/fencepost/connector/SlotConfirmation" "unstored" "Ljava/util/ArrayDeque;" (.ref x_97) := (f100.keep K121q (ninS (own_ne (by omega)) (ninS (own_ne (by omega)) nin0)))
    have f145 : Fld Z T121.heap b94 "com/example/fencepost/fencepost/connector/SlotConfirmation" "position" "J" (.long (0 : Int64)) := (f101.keep K121q (ninS (own_ne (by omega)) (ninS (own_ne (by omega)) nin0)))
    obtain ⟨cq146, kq146, q146a, q146b, q146c⟩ := isOf hZ rfl f143
    obtain ⟨_, _, ⟨T146, L146, k146, n146⟩, -, X146, ⟨Lc146, hQ146, l146, y146, z146⟩, st146⟩ := X121.virtualBack hx (y := (⟨"com/example/fencepost/fencepost/connector/SlotConfirmation", "ended", "(J)V"⟩ : MethodName)) (z := (⟨"com/example/fencepost/fencepost/connector/SlotConfirmation", "ended", "(J)V"⟩ : MethodName)) hown (mvT hZ (hw _ (List.mem_of_getElem? (i := 76) rfl))) (mvT hZ (hw _ (List.mem_of_getElem? (i := 77) rfl))) (notFace_of_selects (args := #[]) (mvT hZ (hw _ (List.mem_of_getElem? (i := 79) rfl)))) (mvT hZ (hw _ (List.mem_of_getElem? (i := 79) rfl))) (mvT hZ (hw _ (List.mem_of_getElem? (i := 78) rfl))) (by decide) (backOf (W := 0) (own_rm13_0 l Z a0 hw [] b94 x_97 x_98 (own_upd (fun _ => .null) 0 (.ref x122)) x122 q_1 (0 : Int64) T121.heap n0 (by omega) f143 f144 f145 f123 f124 f125 f126 f127 f128 f129 f130 f131 rfl (by simp only [own_lts, and_true]; omega) (by omega) (by omega) (by omega) (by omega)) hZ (hw _ (List.mem_of_getElem? (i := 80) rfl)) (hw _ (List.mem_of_getElem? (i := 2) rfl)) (by decide) (by decide)) q146a q146c (g := (mkF m 33 #[.val (.long q_1), .second, .val (.long q_2), .second, .val (.long q_3), .second, .val (.int p_4), .val (.int (1 : Int32)), .val (.ref b94), .unset, .unset, .unset, .unset, .unset, .unset] [(.long (0 : Int64)), (.ref b94)])) rfl (by rw [hml]; rfl) (Steps.refl _) (argsL := [(.long (0 : Int64))]) (rest := []) (lenOf own_pd9 rfl) rfl (by show 2 * 0 + _ ≤ _; exact Nat.le_of_eq rfl) (hb hby at_33) (fun _ _ => ⟨rfl, rfl, (by show k121 + _ ≤ _; rw [y121]; decide), (by show n121 + _ ≤ _; rw [z121]; decide)⟩)
    dsimp only [Pt.U, Pt.locs, Pt.cells, Pt.slots] at X146 l146 y146 z146 st146 hQ146
    have y146 : k146 = 4 := own_addeq y146 (congrArg (fun q => q) y121) rfl
    have z146 : n146 = 25 := own_addeq z146 (congrArg (fun q => q) z121) rfl
    obtain ⟨rfl, N146q, K146q, f147, f148, f149, f150, f151, f152, f153⟩ := hQ146
    have N146 : Fr n0 L146 := by rw [l146]; exact Fr.app N121 N146q
    have z154 := K146q.1
    have K146 : Keep h0 T146.heap [] := K121.trans K146q (allS (Or.inr (by omega)) (allS (Or.inr (by omega)) (allS (Or.inr (by omega)) (allS (Or.inr (by omega)) all0))))
    have z155 := own_lt f147.lt
    obtain ⟨v156, hdv156⟩ : ∃ z : Int64, z = (own_rm20_ret (0 : Int64) q_1) := ⟨_, rfl⟩
    rw [← hdv156] at f148
    have z157 := own_lt f148.lt
    have z158 := own_lt f149.lt
    have z159 := own_lt f150.lt
    have z160 := own_lt f151.lt
    have z161 := own_lt f152.lt
    have z162 := own_lt f153.lt
    refine own_go (fun _ k => st146.trans k) ?_
    show own_Go _ _ _ _ T146 (mkF m 36 #[.val (.long q_1), .second, .val (.long q_2), .second, .val (.long q_3), .second, .val (.int p_4), .val (.int (1 : Int32)), .val (.ref b94), .unset, .unset, .unset, .unset, .unset, .unset] [])
    refine own_go (fun _ k => XS.aload X146.here hx rfl (hb hby at_36) rfl rfl k) ?_
    show own_Go _ _ _ _ T146 (mkF m 38 #[.val (.long q_1), .second, .val (.long q_2), .second, .val (.long q_3), .second, .val (.int p_4), .val (.int (1 : Int32)), .val (.ref b94), .unset, .unset, .unset, .unset, .unset, .unset] [(.ref b94)])
    have f164 : Exa Z T146.heap b94 "com/example/fencepost/fencepost/connector/SlotConfirmation" := (f143.keep K146q)
    obtain ⟨cq163, kq163, q163a, q163b, q163c⟩ := isOf hZ rfl f164
    obtain ⟨_, _, ⟨T163, L163, k163, n163⟩, -, X163, ⟨Lc163, hQ163, l163, y163, z163⟩, st163⟩ := X146.virtualBack hx (y := (⟨"com/example/fencepost/fencepost/connector/SlotConfirmation", "position", "()J"⟩ : MethodName)) (z := (⟨"com/example/fencepost/fencepost/connector/SlotConfirmation", "position", "()J"⟩ : MethodName)) hown (mvT hZ (hw _ (List.mem_of_getElem? (i := 120) rfl))) (mvT hZ (hw _ (List.mem_of_getElem? (i := 121) rfl))) (notFace_of_selects (args := #[]) (mvT hZ (hw _ (List.mem_of_getElem? (i := 123) rfl)))) (mvT hZ (hw _ (List.mem_of_getElem? (i := 123) rfl))) (mvT hZ (hw _ (List.mem_of_getElem? (i := 122) rfl))) (by decide) (backOf (W := 0) (own_rm21 l Z a0 hw [] b94 v156 T146.heap n0 (by omega) f148) hZ (hw _ (List.mem_of_getElem? (i := 124) rfl)) (hw _ (List.mem_of_getElem? (i := 2) rfl)) (by decide) (by decide)) q163a q163c (g := (mkF m 38 #[.val (.long q_1), .second, .val (.long q_2), .second, .val (.long q_3), .second, .val (.int p_4), .val (.int (1 : Int32)), .val (.ref b94), .unset, .unset, .unset, .unset, .unset, .unset] [(.ref b94)])) rfl (by rw [hml]; rfl) (Steps.refl _) (argsL := []) (rest := []) (lenOf own_pd10 rfl) rfl (by show 2 * 0 + _ ≤ _; exact Nat.le_of_eq rfl) (hb hby at_38) (fun _ _ => ⟨rfl, rfl, (by show k146 + _ ≤ _; rw [y146]; decide), (by show n146 + _ ≤ _; rw [z146]; decide)⟩)
    dsimp only [Pt.U, Pt.locs, Pt.cells, Pt.slots] at X163 l163 y163 z163 st163 hQ163
    have y163 : k163 = 4 := own_addeq y163 (congrArg (fun q => q) y146) rfl
    have z163 : n163 = 25 := own_addeq z163 (congrArg (fun q => q) z146) rfl
    obtain ⟨rfl, N163q, e163⟩ := hQ163
    have N163 : Fr n0 L163 := by rw [l163]; exact Fr.app N146 N163q
    refine own_go (fun _ k => st163.trans k) ?_
    show own_Go _ _ _ _ T163 (mkF m 41 #[.val (.long q_1), .second, .val (.long q_2), .second, .val (.long q_3), .second, .val (.int p_4), .val (.int (1 : Int32)), .val (.ref b94), .unset, .unset, .unset, .unset, .unset, .unset] [(.long v156)])
    refine own_go (fun _ k => XS.lstore X163.here hx rfl (hb hby at_41) rfl (l' := #[.val (.long q_1), .second, .val (.long q_2), .second, .val (.long q_3), .second, .val (.int p_4), .val (.int (1 : Int32)), .val (.ref b94), .val (.long v156), .second, .unset, .unset, .unset, .unset]) rfl k) ?_
    show own_Go _ _ _ _ T163 (mkF m 43 #[.val (.long q_1), .second, .val (.long q_2), .second, .val (.long q_3), .second, .val (.int p_4), .val (.int (1 : Int32)), .val (.ref b94), .val (.long v156), .second, .unset, .unset, .unset, .unset] [])
    refine own_go (fun _ k => XS.lload X163.here hx rfl (hb hby at_43) rfl k) ?_
    show own_Go _ _ _ _ T163 (mkF m 45 #[.val (.long q_1), .second, .val (.long q_2), .second, .val (.long q_3), .second, .val (.int p_4), .val (.int (1 : Int32)), .val (.ref b94), .val (.long v156), .second, .unset, .unset, .unset, .unset] [(.long v156)])
    refine own_go (fun _ k => XS.lconst X163.here hx rfl (hb hby at_45) k) ?_
    show own_Go _ _ _ _ T163 (mkF m 46 #[.val (.long q_1), .second, .val (.long q_2), .second, .val (.long q_3), .second, .val (.int p_4), .val (.int (1 : Int32)), .val (.ref b94), .val (.long v156), .second, .unset, .unset, .unset, .unset] [(.long (0 : Int64)), (.long v156)])
    refine own_go (fun _ k => XS.lloadN X163.here hx rfl (hb hby at_46) rfl k) ?_
    show own_Go _ _ _ _ T163 (mkF m 47 #[.val (.long q_1), .second, .val (.long q_2), .second, .val (.long q_3), .second, .val (.int p_4), .val (.int (1 : Int32)), .val (.ref b94), .val (.long v156), .second, .unset, .unset, .unset, .unset] [(.long q_1), (.long (0 : Int64)), (.long v156)])
    obtain ⟨_, _, ⟨T165, L165, k165, n165⟩, -, X165, ⟨Lc165, hQ165, l165, y165, z165⟩, st165⟩ := Jvm.LawKit.callS X163 hx (y := (⟨"com/example/fencepost/fencepost/connector/SlotConfirmationIdlePinLaw", "max", "(JJ)J"⟩ : MethodName)) hown (mvT hZ (hw _ (List.mem_of_getElem? (i := 125) rfl))) (mvT hZ (hw _ (List.mem_of_getElem? (i := 126) rfl))) (mvT hZ (hw _ (List.mem_of_getElem? (i := 127) rfl))) (mvT hZ (hw _ (List.mem_of_getElem? (i := 128) rfl))) (by decide) (backOf (W := 2) (own_rm22 l Z a0 hw [] (0 : Int64) q_1  T146.heap n0 (by omega) ) hZ (hw _ (List.mem_of_getElem? (i := 128) rfl)) (hw _ (List.mem_of_getElem? (i := 127) rfl)) (by decide) (by decide)) (g := (mkF m 47 #[.val (.long q_1), .second, .val (.long q_2), .second, .val (.long q_3), .second, .val (.int p_4), .val (.int (1 : Int32)), .val (.ref b94), .val (.long v156), .second, .unset, .unset, .unset, .unset] [(.long q_1), (.long (0 : Int64)), (.long v156)])) rfl (by rw [hml]; rfl) (argsL := [(.long (0 : Int64)), (.long q_1)]) (rest := [(.long v156)]) (lenOf own_pd8 rfl) rfl (by show 2 * 0 + _ ≤ _; exact Nat.le_of_eq rfl) (hb hby at_47) (fun _ _ => ⟨rfl, e163, (by show k163 + _ ≤ _; rw [y163]; decide), (by show n163 + _ ≤ _; rw [z163]; decide)⟩)
    dsimp only [Pt.U, Pt.locs, Pt.cells, Pt.slots] at X165 l165 y165 z165 st165 hQ165
    have y165 : k165 = 4 := own_addeq y165 (congrArg (fun q => q) y163) rfl
    have z165 : n165 = 25 := own_addeq z165 (congrArg (fun q => q) z163) rfl
    obtain ⟨r166, rfl, N165q, hr_r166, e165⟩ := hQ165
    have N165 : Fr n0 L165 := by rw [l165]; exact Fr.app N163 N165q
    refine own_go (fun _ k => st165 _ k) ?_
    show own_Go _ _ _ _ T165 (mkF m 50 #[.val (.long q_1), .second, .val (.long q_2), .second, .val (.long q_3), .second, .val (.int p_4), .val (.int (1 : Int32)), .val (.ref b94), .val (.long v156), .second, .unset, .unset, .unset, .unset] [(.long r166), (.long v156)])
    refine own_go (fun _ k => XS.lcmp X165.here hx rfl (hb hby at_50) rfl k) ?_
    show own_Go _ _ _ _ T165 (mkF m 51 #[.val (.long q_1), .second, .val (.long q_2), .second, .val (.long q_3), .second, .val (.int p_4), .val (.int (1 : Int32)), .val (.ref b94), .val (.long v156), .second, .unset, .unset, .unset, .unset] [(.int (lcmpW v156 r166))])
    have hc167 : v156 = r166 := own_t0_0 q_1 v156 r166 hdv156 hr_r166
    refine own_go (fun _ k => XS.ifYes X165.here hx rfl (pc0 := 51) (pc' := 56) rfl (hb hby at_51) rfl (Jvm.Free.XT.ll_eq_t hc167) (by decide) (by decide) k) ?_
    show own_Go _ _ _ _ T165 (mkF m 56 #[.val (.long q_1), .second, .val (.long q_2), .second, .val (.long q_3), .second, .val (.int p_4), .val (.int (1 : Int32)), .val (.ref b94), .val (.long v156), .second, .unset, .unset, .unset, .unset] [])
    refine own_go (fun _ k => XS.iload X165.here hx rfl (hb hby at_56) rfl k) ?_
    show own_Go _ _ _ _ T165 (mkF m 58 #[.val (.long q_1), .second, .val (.long q_2), .second, .val (.long q_3), .second, .val (.int p_4), .val (.int (1 : Int32)), .val (.ref b94), .val (.long v156), .second, .unset, .unset, .unset, .unset] [(.int (1 : Int32))])
    have hc168 : ¬ ((1 : Int32) = 0) := by decide
    refine own_go (fun _ k => XS.ifNo X165.here hx rfl (hb hby at_58) rfl (Jvm.Free.XT.i0_eq_f hc168) k) ?_
    show own_Go _ _ _ _ T165 (mkF m 61 #[.val (.long q_1), .second, .val (.long q_2), .second, .val (.long q_3), .second, .val (.int p_4), .val (.int (1 : Int32)), .val (.ref b94), .val (.long v156), .second, .unset, .unset, .unset, .unset] [])
    refine own_go (fun _ k => XS.aload X165.here hx rfl (hb hby at_61) rfl rfl k) ?_
    show own_Go _ _ _ _ T165 (mkF m 63 #[.val (.long q_1), .second, .val (.long q_2), .second, .val (.long q_3), .second, .val (.int p_4), .val (.int (1 : Int32)), .val (.ref b94), .val (.long v156), .second, .unset, .unset, .unset, .unset] [(.ref b94)])
    refine own_go (fun _ k => XS.lload X165.here hx rfl (hb hby at_63) rfl k) ?_
    show own_Go _ _ _ _ T165 (mkF m 65 #[.val (.long q_1), .second, .val (.long q_2), .second, .val (.long q_3), .second, .val (.int p_4), .val (.int (1 : Int32)), .val (.ref b94), .val (.long v156), .second, .unset, .unset, .unset, .unset] [(.long q_3), (.ref b94)])
    refine own_go (fun _ k => XS.lconst X165.here hx rfl (hb hby at_65) k) ?_
    show own_Go _ _ _ _ T165 (mkF m 66 #[.val (.long q_1), .second, .val (.long q_2), .second, .val (.long q_3), .second, .val (.int p_4), .val (.int (1 : Int32)), .val (.ref b94), .val (.long v156), .second, .unset, .unset, .unset, .unset] [(.long (0 : Int64)), (.long q_3), (.ref b94)])
    have f169 : own_OA Z T146.heap x_98 "java/lang/Object" := ((f107.keep K121q).keep K146q)
    obtain ⟨cq170, kq170, q170a, q170b, q170c⟩ := isOf hZ e165 f164
    obtain ⟨_, _, ⟨T170, L170, k170, n170⟩, -, X170, ⟨Lc170, hQ170, l170, y170, z170⟩, st170⟩ := X165.virtualBack hx (y := (⟨"com/example/fencepost/fencepost/connector/SlotConfirmation", "began", "(JJ)V"⟩ : MethodName)) (z := (⟨"com/example/fencepost/fencepost/connector/SlotConfirmation", "began", "(JJ)V"⟩ : MethodName)) hown (mvT hZ (hw _ (List.mem_of_getElem? (i := 28) rfl))) (mvT hZ (hw _ (List.mem_of_getElem? (i := 29) rfl))) (notFace_of_selects (args := #[]) (mvT hZ (hw _ (List.mem_of_getElem? (i := 31) rfl)))) (mvT hZ (hw _ (List.mem_of_getElem? (i := 31) rfl))) (mvT hZ (hw _ (List.mem_of_getElem? (i := 30) rfl))) (by decide) (backOf (W := 0) (own_rm5_1 l Z a0 hw [] b94 q_3 x_97 x_98 (own_upd (own_upd (fun _ => .null) 0 (.ref x122)) 0 .null) T146.heap n0 (by omega) f164 f147 f149 f150 f151 f152 f153 f169 rfl (by simp only [own_lts, and_true]; omega) (by omega) (by omega)) hZ (hw _ (List.mem_of_getElem? (i := 32) rfl)) (hw _ (List.mem_of_getElem? (i := 2) rfl)) (by decide) (by decide)) q170a q170c (g := (mkF m 66 #[.val (.long q_1), .second, .val (.long q_2), .second, .val (.long q_3), .second, .val (.int p_4), .val (.int (1 : Int32)), .val (.ref b94), .val (.long v156), .second, .unset, .unset, .unset, .unset] [(.long (0 : Int64)), (.long q_3), (.ref b94)])) rfl (by rw [hml]; rfl) (Steps.refl _) (argsL := [(.long q_3), (.long (0 : Int64))]) (rest := []) (lenOf own_pd5 rfl) rfl (by show 2 * 0 + _ ≤ _; exact Nat.le_of_eq rfl) (hb hby at_66) (fun _ _ => ⟨rfl, e165, (by show k165 + _ ≤ _; rw [y165]; decide), (by show n165 + _ ≤ _; rw [z165]; decide)⟩)
    dsimp only [Pt.U, Pt.locs, Pt.cells, Pt.slots] at X170 l170 y170 z170 st170 hQ170
    have y170 : k170 = 5 := own_addeq y170 (congrArg (fun q => q) y165) rfl
    have z170 : n170 = 28 := own_addeq z170 (congrArg (fun q => q) z165) rfl
    obtain ⟨x171, rfl, N170q, K170q, f172, f173, f174, f175, f176, f177, f178, f179, f180, f181⟩ := hQ170
    have N170 : Fr n0 L170 := by rw [l170]; exact Fr.app N165 N170q
    have z182 := K170q.1
    have K170 : Keep h0 T170.heap [] := K146.trans K170q (allS (Or.inr (by omega)) (allS (Or.inr (by omega)) all0))
    have z183 := own_lt f172.lt
    have z184 := own_lt f173.lt
    have z185 := own_lt f174.lt
    have z186 := own_lt f175.lt
    have z187 := own_lt f176.lt
    have z188 := own_lt f177.lt
    have z189 := own_lt f178.lt
    have z190 := own_lt f179.lt
    have z191 := own_lt f180.lt
    refine own_go (fun _ k => st170.trans k) ?_
    show own_Go _ _ _ _ T170 (mkF m 69 #[.val (.long q_1), .second, .val (.long q_2), .second, .val (.long q_3), .second, .val (.int p_4), .val (.int (1 : Int32)), .val (.ref b94), .val (.long v156), .second, .unset, .unset, .unset, .unset] [])
    refine own_go (fun _ k => XS.aload X170.here hx rfl (hb hby at_69) rfl rfl k) ?_
    show own_Go _ _ _ _ T170 (mkF m 71 #[.val (.long q_1), .second, .val (.long q_2), .second, .val (.long q_3), .second, .val (.int p_4), .val (.int (1 : Int32)), .val (.ref b94), .val (.long v156), .second, .unset, .unset, .unset, .unset] [(.ref b94)])
    refine own_go (fun _ k => XS.lloadN X170.here hx rfl (hb hby at_71) rfl k) ?_
    show own_Go _ _ _ _ T170 (mkF m 72 #[.val (.long q_1), .second, .val (.long q_2), .second, .val (.long q_3), .second, .val (.int p_4), .val (.int (1 : Int32)), .val (.ref b94), .val (.long v156), .second, .unset, .unset, .unset, .unset] [(.long q_2), (.ref b94)])
    have f192 : Exa Z T170.heap b94 "com/example/fencepost/fencepost/connector/SlotConfirmation" := (f164.keep K170q)
    have f193 : Fld Z T170.heap b94 "com/example/fencepost/fencepost/connector/SlotConfirmation" "unstored" "Ljava/util/ArrayDeque;" (.ref x_97) := (f147.keep K170q (ninS (own_ne (by omega)) (ninS (own_ne (by omega)) nin0)))
    obtain ⟨cq194, kq194, q194a, q194b, q194c⟩ := isOf hZ rfl f192
    obtain ⟨_, _, ⟨T194, L194, k194, n194⟩, -, X194, ⟨Lc194, hQ194, l194, y194, z194⟩, st194⟩ := X170.virtualBack hx (y := (⟨"com/example/fencepost/fencepost/connector/SlotConfirmation", "idle", "(J)V"⟩ : MethodName)) (z := (⟨"com/example/fencepost/fencepost/connector/SlotConfirmation", "idle", "(J)V"⟩ : MethodName)) hown (mvT hZ (hw _ (List.mem_of_getElem? (i := 129) rfl))) (mvT hZ (hw _ (List.mem_of_getElem? (i := 130) rfl))) (notFace_of_selects (args := #[]) (mvT hZ (hw _ (List.mem_of_getElem? (i := 132) rfl)))) (mvT hZ (hw _ (List.mem_of_getElem? (i := 132) rfl))) (mvT hZ (hw _ (List.mem_of_getElem? (i := 131) rfl))) (by decide) (backOf (W := 0) (own_rm23_b l Z a0 hw [] b94 q_2 x_97 T170.heap n0 (by omega) f192 f193 f172 f174 f175) hZ (hw _ (List.mem_of_getElem? (i := 133) rfl)) (hw _ (List.mem_of_getElem? (i := 2) rfl)) (by decide) (by decide)) q194a q194c (g := (mkF m 72 #[.val (.long q_1), .second, .val (.long q_2), .second, .val (.long q_3), .second, .val (.int p_4), .val (.int (1 : Int32)), .val (.ref b94), .val (.long v156), .second, .unset, .unset, .unset, .unset] [(.long q_2), (.ref b94)])) rfl (by rw [hml]; rfl) (Steps.refl _) (argsL := [(.long q_2)]) (rest := []) (lenOf own_pd9 rfl) rfl (by show 2 * 0 + _ ≤ _; exact Nat.le_of_eq rfl) (hb hby at_72) (fun _ _ => ⟨rfl, rfl, (by show k170 + _ ≤ _; rw [y170]; decide), (by show n170 + _ ≤ _; rw [z170]; decide)⟩)
    dsimp only [Pt.U, Pt.locs, Pt.cells, Pt.slots] at X194 l194 y194 z194 st194 hQ194
    have y194 : k194 = 5 := own_addeq y194 (congrArg (fun q => q) y170) rfl
    have z194 : n194 = 28 := own_addeq z194 (congrArg (fun q => q) z170) rfl
    obtain ⟨rfl, N194q, e194⟩ := hQ194
    have N194 : Fr n0 L194 := by rw [l194]; exact Fr.app N170 N194q
    refine own_go (fun _ k => st194.trans k) ?_
    show own_Go _ _ _ _ T194 (mkF m 75 #[.val (.long q_1), .second, .val (.long q_2), .second, .val (.long q_3), .second, .val (.int p_4), .val (.int (1 : Int32)), .val (.ref b94), .val (.long v156), .second, .unset, .unset, .unset, .unset] [])
    refine own_go (fun _ k => XS.aload X194.here hx rfl (hb hby at_75) rfl rfl k) ?_
    show own_Go _ _ _ _ T194 (mkF m 77 #[.val (.long q_1), .second, .val (.long q_2), .second, .val (.long q_3), .second, .val (.int p_4), .val (.int (1 : Int32)), .val (.ref b94), .val (.long v156), .second, .unset, .unset, .unset, .unset] [(.ref b94)])
    have f195 : Fld Z T170.heap b94 "com/example/fencepost/fencepost/connector/SlotConfirmation" "position" "J" (.long v156) := (f148.keep K170q (ninS (own_ne (by omega)) (ninS (own_ne (by omega)) nin0)))
    obtain ⟨cq196, kq196, q196a, q196b, q196c⟩ := isOf hZ e194 f192
    obtain ⟨_, _, ⟨T196, L196, k196, n196⟩, -, X196, ⟨Lc196, hQ196, l196, y196, z196⟩, st196⟩ := X194.virtualBack hx (y := (⟨"com/example/fencepost/fencepost/connector/SlotConfirmation", "position", "()J"⟩ : MethodName)) (z := (⟨"com/example/fencepost/fencepost/connector/SlotConfirmation", "position", "()J"⟩ : MethodName)) hown (mvT hZ (hw _ (List.mem_of_getElem? (i := 120) rfl))) (mvT hZ (hw _ (List.mem_of_getElem? (i := 121) rfl))) (notFace_of_selects (args := #[]) (mvT hZ (hw _ (List.mem_of_getElem? (i := 123) rfl)))) (mvT hZ (hw _ (List.mem_of_getElem? (i := 123) rfl))) (mvT hZ (hw _ (List.mem_of_getElem? (i := 122) rfl))) (by decide) (backOf (W := 0) (own_rm21 l Z a0 hw [] b94 v156 T170.heap n0 (by omega) f195) hZ (hw _ (List.mem_of_getElem? (i := 124) rfl)) (hw _ (List.mem_of_getElem? (i := 2) rfl)) (by decide) (by decide)) q196a q196c (g := (mkF m 77 #[.val (.long q_1), .second, .val (.long q_2), .second, .val (.long q_3), .second, .val (.int p_4), .val (.int (1 : Int32)), .val (.ref b94), .val (.long v156), .second, .unset, .unset, .unset, .unset] [(.ref b94)])) rfl (by rw [hml]; rfl) (Steps.refl _) (argsL := []) (rest := []) (lenOf own_pd10 rfl) rfl (by show 2 * 0 + _ ≤ _; exact Nat.le_of_eq rfl) (hb hby at_77) (fun _ _ => ⟨rfl, e194, (by show k194 + _ ≤ _; rw [y194]; decide), (by show n194 + _ ≤ _; rw [z194]; decide)⟩)
    dsimp only [Pt.U, Pt.locs, Pt.cells, Pt.slots] at X196 l196 y196 z196 st196 hQ196
    have y196 : k196 = 5 := own_addeq y196 (congrArg (fun q => q) y194) rfl
    have z196 : n196 = 28 := own_addeq z196 (congrArg (fun q => q) z194) rfl
    obtain ⟨rfl, N196q, e196⟩ := hQ196
    have N196 : Fr n0 L196 := by rw [l196]; exact Fr.app N194 N196q
    refine own_go (fun _ k => st196.trans k) ?_
    show own_Go _ _ _ _ T196 (mkF m 80 #[.val (.long q_1), .second, .val (.long q_2), .second, .val (.long q_3), .second, .val (.int p_4), .val (.int (1 : Int32)), .val (.ref b94), .val (.long v156), .second, .unset, .unset, .unset, .unset] [(.long v156)])
    refine own_go (fun _ k => XS.lstore X196.here hx rfl (hb hby at_80) rfl (l' := #[.val (.long q_1), .second, .val (.long q_2), .second, .val (.long q_3), .second, .val (.int p_4), .val (.int (1 : Int32)), .val (.ref b94), .val (.long v156), .second, .val (.long v156), .second, .unset, .unset]) rfl k) ?_
    show own_Go _ _ _ _ T196 (mkF m 82 #[.val (.long q_1), .second, .val (.long q_2), .second, .val (.long q_3), .second, .val (.int p_4), .val (.int (1 : Int32)), .val (.ref b94), .val (.long v156), .second, .val (.long v156), .second, .unset, .unset] [])
    refine own_go (fun _ k => XS.iload X196.here hx rfl (hb hby at_82) rfl k) ?_
    show own_Go _ _ _ _ T196 (mkF m 84 #[.val (.long q_1), .second, .val (.long q_2), .second, .val (.long q_3), .second, .val (.int p_4), .val (.int (1 : Int32)), .val (.ref b94), .val (.long v156), .second, .val (.long v156), .second, .unset, .unset] [(.int (1 : Int32))])
    have hc197 : ¬ ((1 : Int32) = 0) := by decide
    refine own_go (fun _ k => XS.ifNo X196.here hx rfl (hb hby at_84) rfl (Jvm.Free.XT.i0_eq_f hc197) k) ?_
    show own_Go _ _ _ _ T196 (mkF m 87 #[.val (.long q_1), .second, .val (.long q_2), .second, .val (.long q_3), .second, .val (.int p_4), .val (.int (1 : Int32)), .val (.ref b94), .val (.long v156), .second, .val (.long v156), .second, .unset, .unset] [])
    refine own_go (fun _ k => XS.lload X196.here hx rfl (hb hby at_87) rfl k) ?_
    show own_Go _ _ _ _ T196 (mkF m 89 #[.val (.long q_1), .second, .val (.long q_2), .second, .val (.long q_3), .second, .val (.int p_4), .val (.int (1 : Int32)), .val (.ref b94), .val (.long v156), .second, .val (.long v156), .second, .unset, .unset] [(.long v156)])
    refine own_go (fun _ k => XS.lstore X196.here hx rfl (hb hby at_89) rfl (l' := #[.val (.long q_1), .second, .val (.long q_2), .second, .val (.long q_3), .second, .val (.int p_4), .val (.int (1 : Int32)), .val (.ref b94), .val (.long v156), .second, .val (.long v156), .second, .val (.long v156), .second]) rfl k) ?_
    show own_Go _ _ _ _ T196 (mkF m 91 #[.val (.long q_1), .second, .val (.long q_2), .second, .val (.long q_3), .second, .val (.int p_4), .val (.int (1 : Int32)), .val (.ref b94), .val (.long v156), .second, .val (.long v156), .second, .val (.long v156), .second] [])
    refine own_go (fun _ k => XS.goto X196.here hx rfl (pc0 := 91) (pc' := 111) rfl (hb hby at_91) (by decide) (by decide) k) ?_
    show own_Go _ _ _ _ T196 (mkF m 111 #[.val (.long q_1), .second, .val (.long q_2), .second, .val (.long q_3), .second, .val (.int p_4), .val (.int (1 : Int32)), .val (.ref b94), .val (.long v156), .second, .val (.long v156), .second, .val (.long v156), .second] [])
    refine own_go (fun _ k => XS.lload X196.here hx rfl (hb hby at_111) rfl k) ?_
    show own_Go _ _ _ _ T196 (mkF m 113 #[.val (.long q_1), .second, .val (.long q_2), .second, .val (.long q_3), .second, .val (.int p_4), .val (.int (1 : Int32)), .val (.ref b94), .val (.long v156), .second, .val (.long v156), .second, .val (.long v156), .second] [(.long v156)])
    refine own_go (fun _ k => XS.lload X196.here hx rfl (hb hby at_113) rfl k) ?_
    show own_Go _ _ _ _ T196 (mkF m 115 #[.val (.long q_1), .second, .val (.long q_2), .second, .val (.long q_3), .second, .val (.int p_4), .val (.int (1 : Int32)), .val (.ref b94), .val (.long v156), .second, .val (.long v156), .second, .val (.long v156), .second] [(.long v156), (.long v156)])
    refine own_go (fun _ k => XS.lcmp X196.here hx rfl (hb hby at_115) rfl k) ?_
    show own_Go _ _ _ _ T196 (mkF m 116 #[.val (.long q_1), .second, .val (.long q_2), .second, .val (.long q_3), .second, .val (.int p_4), .val (.int (1 : Int32)), .val (.ref b94), .val (.long v156), .second, .val (.long v156), .second, .val (.long v156), .second] [(.int (lcmpW v156 v156))])
    have hc198 : v156 = v156 := rfl
    refine own_go (fun _ k => XS.ifYes X196.here hx rfl (pc0 := 116) (pc' := 121) rfl (hb hby at_116) rfl (Jvm.Free.XT.ll_eq_t hc198) (by decide) (by decide) k) ?_
    show own_Go _ _ _ _ T196 (mkF m 121 #[.val (.long q_1), .second, .val (.long q_2), .second, .val (.long q_3), .second, .val (.int p_4), .val (.int (1 : Int32)), .val (.ref b94), .val (.long v156), .second, .val (.long v156), .second, .val (.long v156), .second] [])
    refine own_go (fun _ k => XS.iload X196.here hx rfl (hb hby at_121) rfl k) ?_
    show own_Go _ _ _ _ T196 (mkF m 123 #[.val (.long q_1), .second, .val (.long q_2), .second, .val (.long q_3), .second, .val (.int p_4), .val (.int (1 : Int32)), .val (.ref b94), .val (.long v156), .second, .val (.long v156), .second, .val (.long v156), .second] [(.int (1 : Int32))])
    have hc199 : ¬ ((1 : Int32) = 0) := by decide
    refine own_go (fun _ k => XS.ifNo X196.here hx rfl (hb hby at_123) rfl (Jvm.Free.XT.i0_eq_f hc199) k) ?_
    show own_Go _ _ _ _ T196 (mkF m 126 #[.val (.long q_1), .second, .val (.long q_2), .second, .val (.long q_3), .second, .val (.int p_4), .val (.int (1 : Int32)), .val (.ref b94), .val (.long v156), .second, .val (.long v156), .second, .val (.long v156), .second] [])
    refine own_go (fun _ k => XS.aload X196.here hx rfl (hb hby at_126) rfl rfl k) ?_
    show own_Go _ _ _ _ T196 (mkF m 128 #[.val (.long q_1), .second, .val (.long q_2), .second, .val (.long q_3), .second, .val (.int p_4), .val (.int (1 : Int32)), .val (.ref b94), .val (.long v156), .second, .val (.long v156), .second, .val (.long v156), .second] [(.ref b94)])
    refine own_go (fun _ k => XS.lconst X196.here hx rfl (hb hby at_128) k) ?_
    show own_Go _ _ _ _ T196 (mkF m 129 #[.val (.long q_1), .second, .val (.long q_2), .second, .val (.long q_3), .second, .val (.int p_4), .val (.int (1 : Int32)), .val (.ref b94), .val (.long v156), .second, .val (.long v156), .second, .val (.long v156), .second] [(.long (0 : Int64)), (.ref b94)])
    obtain ⟨cq200, kq200, q200a, q200b, q200c⟩ := isOf hZ e196 f192
    obtain ⟨_, _, ⟨T200, L200, k200, n200⟩, -, X200, ⟨Lc200, hQ200, l200, y200, z200⟩, st200⟩ := X196.virtualBack hx (y := (⟨"com/example/fencepost/fencepost/connector/SlotConfirmation", "ended", "(J)V"⟩ : MethodName)) (z := (⟨"com/example/fencepost/fencepost/connector/SlotConfirmation", "ended", "(J)V"⟩ : MethodName)) hown (mvT hZ (hw _ (List.mem_of_getElem? (i := 76) rfl))) (mvT hZ (hw _ (List.mem_of_getElem? (i := 77) rfl))) (notFace_of_selects (args := #[]) (mvT hZ (hw _ (List.mem_of_getElem? (i := 79) rfl)))) (mvT hZ (hw _ (List.mem_of_getElem? (i := 79) rfl))) (mvT hZ (hw _ (List.mem_of_getElem? (i := 78) rfl))) (by decide) (backOf (W := 0) (own_rm13_1 l Z a0 hw [] b94 x_97 x_98 (own_upd (own_upd (own_upd (fun _ => .null) 0 (.ref x122)) 0 .null) 1 (.ref x171)) x171 q_3 v156 T170.heap n0 (by omega) f192 f193 f195 f172 f173 f174 f175 f176 f177 f178 f179 f180 rfl (by simp only [own_lts, and_true]; omega) (by omega) (by omega) (by omega) (by omega)) hZ (hw _ (List.mem_of_getElem? (i := 80) rfl)) (hw _ (List.mem_of_getElem? (i := 2) rfl)) (by decide) (by decide)) q200a q200c (g := (mkF m 129 #[.val (.long q_1), .second, .val (.long q_2), .second, .val (.long q_3), .second, .val (.int p_4), .val (.int (1 : Int32)), .val (.ref b94), .val (.long v156), .second, .val (.long v156), .second, .val (.long v156), .second] [(.long (0 : Int64)), (.ref b94)])) rfl (by rw [hml]; rfl) (Steps.refl _) (argsL := [(.long (0 : Int64))]) (rest := []) (lenOf own_pd9 rfl) rfl (by show 2 * 0 + _ ≤ _; exact Nat.le_of_eq rfl) (hb hby at_129) (fun _ _ => ⟨rfl, e196, (by show k196 + _ ≤ _; rw [y196]; decide), (by show n196 + _ ≤ _; rw [z196]; decide)⟩)
    dsimp only [Pt.U, Pt.locs, Pt.cells, Pt.slots] at X200 l200 y200 z200 st200 hQ200
    have y200 : k200 = 5 := own_addeq y200 (congrArg (fun q => q) y196) rfl
    have z200 : n200 = 28 := own_addeq z200 (congrArg (fun q => q) z196) rfl
    obtain ⟨rfl, N200q, K200q, f201, f202, f203, f204, f205, f206, f207⟩ := hQ200
    have N200 : Fr n0 L200 := by rw [l200]; exact Fr.app N196 N200q
    have z208 := K200q.1
    have K200 : Keep h0 T200.heap [] := K170.trans K200q (allS (Or.inr (by omega)) (allS (Or.inr (by omega)) (allS (Or.inr (by omega)) (allS (Or.inr (by omega)) all0))))
    have z209 := own_lt f201.lt
    obtain ⟨v210, hdv210⟩ : ∃ z : Int64, z = (own_rm20_ret v156 q_3) := ⟨_, rfl⟩
    rw [← hdv210] at f202
    have z211 := own_lt f202.lt
    have z212 := own_lt f203.lt
    have z213 := own_lt f204.lt
    have z214 := own_lt f205.lt
    have z215 := own_lt f206.lt
    have z216 := own_lt f207.lt
    refine own_go (fun _ k => st200.trans k) ?_
    show own_Go _ _ _ _ T200 (mkF m 132 #[.val (.long q_1), .second, .val (.long q_2), .second, .val (.long q_3), .second, .val (.int p_4), .val (.int (1 : Int32)), .val (.ref b94), .val (.long v156), .second, .val (.long v156), .second, .val (.long v156), .second] [])
    refine own_go (fun _ k => XS.aload X200.here hx rfl (hb hby at_132) rfl rfl k) ?_
    show own_Go _ _ _ _ T200 (mkF m 134 #[.val (.long q_1), .second, .val (.long q_2), .second, .val (.long q_3), .second, .val (.int p_4), .val (.int (1 : Int32)), .val (.ref b94), .val (.long v156), .second, .val (.long v156), .second, .val (.long v156), .second] [(.ref b94)])
    have f218 : Exa Z T200.heap b94 "com/example/fencepost/fencepost/connector/SlotConfirmation" := (f192.keep K200q)
    obtain ⟨cq217, kq217, q217a, q217b, q217c⟩ := isOf hZ rfl f218
    obtain ⟨_, _, ⟨T217, L217, k217, n217⟩, -, X217, ⟨Lc217, hQ217, l217, y217, z217⟩, st217⟩ := X200.virtualBack hx (y := (⟨"com/example/fencepost/fencepost/connector/SlotConfirmation", "position", "()J"⟩ : MethodName)) (z := (⟨"com/example/fencepost/fencepost/connector/SlotConfirmation", "position", "()J"⟩ : MethodName)) hown (mvT hZ (hw _ (List.mem_of_getElem? (i := 120) rfl))) (mvT hZ (hw _ (List.mem_of_getElem? (i := 121) rfl))) (notFace_of_selects (args := #[]) (mvT hZ (hw _ (List.mem_of_getElem? (i := 123) rfl)))) (mvT hZ (hw _ (List.mem_of_getElem? (i := 123) rfl))) (mvT hZ (hw _ (List.mem_of_getElem? (i := 122) rfl))) (by decide) (backOf (W := 0) (own_rm21 l Z a0 hw [] b94 v210 T200.heap n0 (by omega) f202) hZ (hw _ (List.mem_of_getElem? (i := 124) rfl)) (hw _ (List.mem_of_getElem? (i := 2) rfl)) (by decide) (by decide)) q217a q217c (g := (mkF m 134 #[.val (.long q_1), .second, .val (.long q_2), .second, .val (.long q_3), .second, .val (.int p_4), .val (.int (1 : Int32)), .val (.ref b94), .val (.long v156), .second, .val (.long v156), .second, .val (.long v156), .second] [(.ref b94)])) rfl (by rw [hml]; rfl) (Steps.refl _) (argsL := []) (rest := []) (lenOf own_pd10 rfl) rfl (by show 2 * 0 + _ ≤ _; exact Nat.le_of_eq rfl) (hb hby at_134) (fun _ _ => ⟨rfl, rfl, (by show k200 + _ ≤ _; rw [y200]; decide), (by show n200 + _ ≤ _; rw [z200]; decide)⟩)
    dsimp only [Pt.U, Pt.locs, Pt.cells, Pt.slots] at X217 l217 y217 z217 st217 hQ217
    have y217 : k217 = 5 := own_addeq y217 (congrArg (fun q => q) y200) rfl
    have z217 : n217 = 28 := own_addeq z217 (congrArg (fun q => q) z200) rfl
    obtain ⟨rfl, N217q, e217⟩ := hQ217
    have N217 : Fr n0 L217 := by rw [l217]; exact Fr.app N200 N217q
    refine own_go (fun _ k => st217.trans k) ?_
    show own_Go _ _ _ _ T217 (mkF m 137 #[.val (.long q_1), .second, .val (.long q_2), .second, .val (.long q_3), .second, .val (.int p_4), .val (.int (1 : Int32)), .val (.ref b94), .val (.long v156), .second, .val (.long v156), .second, .val (.long v156), .second] [(.long v210)])
    refine own_go (fun _ k => XS.lload X217.here hx rfl (hb hby at_137) rfl k) ?_
    show own_Go _ _ _ _ T217 (mkF m 139 #[.val (.long q_1), .second, .val (.long q_2), .second, .val (.long q_3), .second, .val (.int p_4), .val (.int (1 : Int32)), .val (.ref b94), .val (.long v156), .second, .val (.long v156), .second, .val (.long v156), .second] [(.long v156), (.long v210)])
    refine own_go (fun _ k => XS.lload X217.here hx rfl (hb hby at_139) rfl k) ?_
    show own_Go _ _ _ _ T217 (mkF m 141 #[.val (.long q_1), .second, .val (.long q_2), .second, .val (.long q_3), .second, .val (.int p_4), .val (.int (1 : Int32)), .val (.ref b94), .val (.long v156), .second, .val (.long v156), .second, .val (.long v156), .second] [(.long q_3), (.long v156), (.long v210)])
    obtain ⟨_, _, ⟨T219, L219, k219, n219⟩, -, X219, ⟨Lc219, hQ219, l219, y219, z219⟩, st219⟩ := Jvm.LawKit.callS X217 hx (y := (⟨"com/example/fencepost/fencepost/connector/SlotConfirmationIdlePinLaw", "max", "(JJ)J"⟩ : MethodName)) hown (mvT hZ (hw _ (List.mem_of_getElem? (i := 125) rfl))) (mvT hZ (hw _ (List.mem_of_getElem? (i := 126) rfl))) (mvT hZ (hw _ (List.mem_of_getElem? (i := 127) rfl))) (mvT hZ (hw _ (List.mem_of_getElem? (i := 128) rfl))) (by decide) (backOf (W := 2) (own_rm22 l Z a0 hw [] v156 q_3  T200.heap n0 (by omega) ) hZ (hw _ (List.mem_of_getElem? (i := 128) rfl)) (hw _ (List.mem_of_getElem? (i := 127) rfl)) (by decide) (by decide)) (g := (mkF m 141 #[.val (.long q_1), .second, .val (.long q_2), .second, .val (.long q_3), .second, .val (.int p_4), .val (.int (1 : Int32)), .val (.ref b94), .val (.long v156), .second, .val (.long v156), .second, .val (.long v156), .second] [(.long q_3), (.long v156), (.long v210)])) rfl (by rw [hml]; rfl) (argsL := [(.long v156), (.long q_3)]) (rest := [(.long v210)]) (lenOf own_pd8 rfl) rfl (by show 2 * 0 + _ ≤ _; exact Nat.le_of_eq rfl) (hb hby at_141) (fun _ _ => ⟨rfl, e217, (by show k217 + _ ≤ _; rw [y217]; decide), (by show n217 + _ ≤ _; rw [z217]; decide)⟩)
    dsimp only [Pt.U, Pt.locs, Pt.cells, Pt.slots] at X219 l219 y219 z219 st219 hQ219
    have y219 : k219 = 5 := own_addeq y219 (congrArg (fun q => q) y217) rfl
    have z219 : n219 = 28 := own_addeq z219 (congrArg (fun q => q) z217) rfl
    obtain ⟨r220, rfl, N219q, hr_r220, e219⟩ := hQ219
    have N219 : Fr n0 L219 := by rw [l219]; exact Fr.app N217 N219q
    refine own_go (fun _ k => st219 _ k) ?_
    show own_Go _ _ _ _ T219 (mkF m 144 #[.val (.long q_1), .second, .val (.long q_2), .second, .val (.long q_3), .second, .val (.int p_4), .val (.int (1 : Int32)), .val (.ref b94), .val (.long v156), .second, .val (.long v156), .second, .val (.long v156), .second] [(.long r220), (.long v210)])
    refine own_go (fun _ k => XS.lcmp X219.here hx rfl (hb hby at_144) rfl k) ?_
    show own_Go _ _ _ _ T219 (mkF m 145 #[.val (.long q_1), .second, .val (.long q_2), .second, .val (.long q_3), .second, .val (.int p_4), .val (.int (1 : Int32)), .val (.ref b94), .val (.long v156), .second, .val (.long v156), .second, .val (.long v156), .second] [(.int (lcmpW v210 r220))])
    have hc221 : v210 = r220 := own_t0_3 q_1 q_3 v156 r166 v210 r220 hdv156 hr_r166 hc167 hdv210 hr_r220
    refine own_go (fun _ k => XS.ifNo X219.here hx rfl (hb hby at_145) rfl (Jvm.Free.XT.ll_ne_f hc221) k) ?_
    show own_Go _ _ _ _ T219 (mkF m 148 #[.val (.long q_1), .second, .val (.long q_2), .second, .val (.long q_3), .second, .val (.int p_4), .val (.int (1 : Int32)), .val (.ref b94), .val (.long v156), .second, .val (.long v156), .second, .val (.long v156), .second] [])
    refine own_go (fun _ k => XS.iconst X219.here hx rfl (hb hby at_148) k) ?_
    show own_Go _ _ _ _ T219 (mkF m 149 #[.val (.long q_1), .second, .val (.long q_2), .second, .val (.long q_3), .second, .val (.int p_4), .val (.int (1 : Int32)), .val (.ref b94), .val (.long v156), .second, .val (.long v156), .second, .val (.long v156), .second] [(.int (1 : Int32))])
    refine own_go (fun _ k => XS.goto X219.here hx rfl (pc0 := 149) (pc' := 153) rfl (hb hby at_149) (by decide) (by decide) k) ?_
    show own_Go _ _ _ _ T219 (mkF m 153 #[.val (.long q_1), .second, .val (.long q_2), .second, .val (.long q_3), .second, .val (.int p_4), .val (.int (1 : Int32)), .val (.ref b94), .val (.long v156), .second, .val (.long v156), .second, .val (.long v156), .second] [(.int (1 : Int32))])
    obtain ⟨fs, hr, hrun, hended, hW, hsame⟩ := X219.leave (v := some (.int (1 : Int32))) (fun h => by rw [Bd.returns] at h; cases h)
    refine ⟨_, _, retOut X219 hx Bd.returns rfl (Or.inl ⟨rfl, Or.inr (Or.inl rfl), _, rfl⟩) (hb hby at_153) hr, hrun, hended, _, _, rfl, ?_, ⟨_, rfl⟩, hW, hsame.mono (by rw [y219]; decide) (by rw [z219]; decide)⟩
    show own_Q0 Z q_1 q_2 q_3 p_4 h0 n0 _ T219.heap _
    rw [e219]
    exact ⟨rfl, N219⟩
set_option maxRecDepth 65536 in
set_option maxHeartbeats 40000000 in
theorem comes_1 {Post : Tables → Env → Array Value → State → Outcome → State → Prop} (hpost : ∀ tb e args s v u, (limb_1_1.after args s (.returned v) u = true ∧ limb_1_2.after args s (.returned v) u = true ∧ True) → FrameEnd s (.returned v) u (Jvm.fieldLocs frame_1_writes args s ++ Jvm.arrayLocs frame_1_arrays args s ++ Jvm.staticLocs frame_1_statics s) 24 128 → Post tb e args s (.returned v) u) :
    ArmFor flags0 classFile x code maxLocals ret World_1 tables_1 room_1 Calls_1 rest_1 Pre_1 Post := by
  intro l hfl _ _ p e ha hc hk s m args below hf hA hF happ hP
  obtain ⟨hcalls, hrest, hpre⟩ := hP
  obtain ⟨-, -, -, hnamed, -, -, -, hat⟩ := (Spec.applies_iff hf).mp happ
  obtain ⟨hg, hn⟩ := and_e (Cond.before_iff.mp (show (Jvm.Cond.and given_1 narrow_1).before args s = true from hpre))
  obtain ⟨g1, g2⟩ := and_e hg
  obtain ⟨g3, g4⟩ := and_e g2
  obtain ⟨g5, g6⟩ := and_e g4
  obtain ⟨g7, g8⟩ := and_e g6
  obtain ⟨w0, w1, w2, w3, rfl⟩ : ∃ w0 w1 w2 w3 : Value, args = #[w0, w1, w2, w3] := by
    have hs : args.size = 4 := by simpa [Cond.value, given_1] using g1
    obtain ⟨L⟩ := args
    match L, hs with
    | [w0, w1, w2, w3], _ => exact ⟨w0, w1, w2, w3, rfl⟩
  have hw := fun d (hd : d ∈ tables_1) => atoms_spec (ws := Jvm.Cond.code x code maxLocals ret :: tables_1) hat d (List.mem_cons_of_mem _ hd)
  have hfit : Fit s := fun {y c} hc i hi => by
    obtain ⟨ha, rfl⟩ := Array.getElem?_eq_some_iff.mp hc
    have q := List.all_eq_true.mp ((Array.all_eq_true_iff_forall_mem.mp hF) _ (Array.getElem_mem ha)) i (List.mem_range.mpr hi)
    simpa [Array.getElem?_eq_getElem hi] using q
  obtain ⟨i0, ei0⟩ := isL_v g3
  obtain rfl : w0 = (.long i0) := Option.some.inj ei0
  obtain ⟨i1, ei1⟩ := isL_v g5
  obtain rfl : w1 = (.long i1) := Option.some.inj ei1
  obtain ⟨i2, ei2⟩ := isL_v g7
  obtain rfl : w2 = (.long i2) := Option.some.inj ei2
  obtain ⟨i3, ei3⟩ := is_v g8
  obtain rfl : w3 = (.int i3) := Option.some.inj ei3
  obtain ⟨n, o, h1, h2, h3, _, L, rfl, ⟨rfl, N⟩, hq⟩ := own_rm0 l s _ hw tables_1 i0 i1 i2 i3  s.heap s.heap.size (Nat.le_refl _)  p e ha hc hk s m _ below hf ((Spec.applies_iff_loose hf).mp happ).1 ⟨rfl, State.Warmed39.refl s, rfl⟩ trivial
  refine ⟨n, _, h1, h2, h3, hpost _ _ _ _ _ _ ⟨Cond.after_iff.mpr rfl, Cond.after_iff.mpr (eq_i res_at (Term.int_eval (1)) rfl), trivial⟩ ⟨hq.1, hq.2.1, (hq.2.2.sift fun y hy => Or.inr (N y hy)).mono (by decide) (by decide)⟩⟩
theorem main_1_1 : Claimed_1_1 := comes_1 fun _ _ _ _ _ _ h hF => ⟨h.1, hF⟩
theorem main_1_2 : Claimed_1_2 := comes_1 fun _ _ _ _ _ _ h hF => ⟨h.2.1, hF⟩
end Jvm.Pilot.@@N@@
namespace Jvm.Pilot.@@N@@
open Jvm Jvm.ClassFile Sem Op Lib Jvm.Free Jvm.Stand Jvm.Pilot.@@N@@.Jvm.D
/-! MADE BY PROGRAM (witnessworld.py) out of the Statement's table words and the real class files: 19 classes; the members and pool entries that the words name. The judged class is class 1, her method 2. -/
namespace start1
open Jvm.ClassFile
def u (s : String) : CpInfo := .utf8 (stringToUtf16 s)
/-- a pool by its gaps: so many unusable entries, then the entry; so many at the end -/
def gap : Nat → List CpInfo → List CpInfo
  | 0, r => r
  | n + 1, r => .unusable :: gap n r
def poolList (es : List (Nat × CpInfo)) (last : Nat) : List CpInfo := es.foldr (fun e r => gap e.1 (e.2 :: r)) (gap last [])
def pool (es : List (Nat × CpInfo)) (last : Nat) : Array CpInfo := ⟨poolList es last⟩
def fileOf (pool : Array CpInfo) (this : Nat) (attrs : Array Attribute := #[]) (ms : Array MethodInfo := #[]) (fl : Nat := 33) (sup : Nat := 0) (ifs : Array Nat := #[]) (fds : Array FieldInfo := #[]) : ClassFile where
  minorVersion := 0
  majorVersion := 65
  constantPool := pool
  accessFlags := fl
  thisClass := this
  superClass := sup
  interfaces := ifs
  fields := fds
  methods := ms
  attributes := attrs
def plain (name : String) (sup : Option ClassId) : Class where
  name := name
  kind := .ordinary
  loader := none
  accessFlags := 33
  super := sup
  interfaces := #[]
  cf := none
  fields := #[]
  methods := #[]
  instanceTypes := #[]
  staticTypes := #[]
  resolved := #[]
  callSites := []
  init := .initialized
  statics := none
  mirror := none

def pool0 : Array CpInfo := pool [(5, u "<init>"), (0, u "()V"), (1, .class_ 10), (1, u "java/lang/Object")] 113

def k0c0 : Code := { maxStack := 0, maxLocals := 1, code := object_method_1_code, exceptionTable := #[], attributes := #[] }
def k0m0 : Method := { name := "<init>", desc := "()V", sig := { parameters := [], returnType := none }, accessFlags := 1, code := some k0c0 }
/-- java/lang/Object -/
def k0 : Class := { plain "java/lang/Object" none with
  accessFlags := 33
  interfaces := #[]
  cf := some (fileOf pool0 8 #[] #[{ accessFlags := 1, nameIndex := 5, descriptorIndex := 6, attributes := #[] }] 33 0 #[] #[])
  fields := #[]
  methods := #[k0m0]
  instanceTypes := #[]
  staticTypes := #[]
  resolved := Array.replicate 124 none
  statics := none }

def pool1 : Array CpInfo := pool [(2, .class_ 4), (0, .nameAndType 5 6), (0, u "java/lang/Object"), (0, u "<init>"), (0, u "()V"), (0, .class_ 8), (0, u "com/example/fencepost/fencepost/connector/SlotConfirmation"), (0, .methodref 7 3), (0, .methodref 7 11), (0, .nameAndType 12 13), (0, u "began"), (0, u "(JJ)V"), (0, .methodref 7 15), (0, .nameAndType 16 17), (0, u "ended"), (0, u "(J)V"), (0, .methodref 7 19), (0, .nameAndType 20 21), (0, u "position"), (0, u "()J"), (0, .methodref 23 24), (0, .class_ 25), (0, .nameAndType 26 27), (0, u "com/example/fencepost/fencepost/connector/SlotConfirmationIdlePinLaw"), (0, u "max"), (0, u "(JJ)J"), (0, .methodref 7 29), (0, .nameAndType 30 17), (0, u "idle"), (3, u "law"), (0, u "(JJJI)Z")] 2

def k1m0 : Method := { name := "<init>", desc := "()V", sig := { parameters := [], returnType := none }, accessFlags := 1, code := none }
def k1c1 : Code := { maxStack := 4, maxLocals := 4, code := method_2_code, exceptionTable := #[], attributes := #[] }
def k1m1 : Method := { name := "max", desc := "(JJ)J", sig := { parameters := [.long, .long], returnType := some .long }, accessFlags := 10, code := some k1c1 }
def k1c2 : Code := { maxStack := 6, maxLocals := 15, code := code, exceptionTable := #[], attributes := #[] }
def k1m2 : Method := { name := "law", desc := "(JJJI)Z", sig := { parameters := [.long, .long, .long, .int], returnType := some .boolean }, accessFlags := 9, code := some k1c2 }
/-- com/example/fencepost/fencepost/connector/SlotConfirmationIdlePinLaw -/
def k1 : Class := { plain "com/example/fencepost/fencepost/connector/SlotConfirmationIdlePinLaw" (some 0) with
  accessFlags := 49
  interfaces := #[]
  cf := some (fileOf pool1 23 #[] #[{ accessFlags := 1, nameIndex := 5, descriptorIndex := 6, attributes := #[] }, { accessFlags := 10, nameIndex := 26, descriptorIndex := 27, attributes := #[] }, { accessFlags := 9, nameIndex := 34, descriptorIndex := 35, attributes := #[] }] 49 2 #[] #[])
  fields := #[]
  methods := #[k1m0, k1m1, k1m2]
  instanceTypes := #[]
  staticTypes := #[]
  resolved := Array.replicate 38 none
  statics := none }

def pool2 : Array CpInfo := pool [(1, .methodref 2 3), (0, .class_ 4), (0, .nameAndType 5 6), (0, u "java/lang/Object"), (0, u "<init>"), (0, u "()V"), (0, .class_ 8), (0, u "java/util/ArrayDeque"), (0, .methodref 7 3), (0, .fieldref 11 12), (0, .class_ 13), (0, .nameAndType 14 15), (0, u "com/example/fencepost/fencepost/connector/SlotConfirmation"), (0, u "unstored"), (0, u "Ljava/util/ArrayDeque;"), (0, .fieldref 11 17), (0, .nameAndType 18 19), (0, u "position"), (0, u "J"), (0, .methodref 7 21), (0, .nameAndType 22 23), (0, u "peekLast"), (0, u "()Ljava/lang/Object;"), (0, .class_ 25), (0, u "com/example/fencepost/fencepost/connector/SlotConfirmation$Transaction"), (0, .fieldref 24 27), (0, .nameAndType 28 19), (0, u "commit"), (0, .methodref 24 30), (0, .nameAndType 5 31), (0, u "(JJ)V"), (0, .methodref 7 33), (0, .nameAndType 34 35), (0, u "add"), (0, u "(Ljava/lang/Object;)Z"), (0, .methodref 7 37), (0, .nameAndType 38 39), (0, u "isEmpty"), (0, u "()Z"), (0, .methodref 7 41), (0, .nameAndType 42 23), (0, u "getLast"), (3, .fieldref 24 47), (0, .nameAndType 48 19), (0, u "changes"), (0, .methodref 11 50), (0, .nameAndType 51 6), (0, u "settle"), (0, .methodref 7 53), (0, .nameAndType 54 23), (0, u "getFirst"), (0, .methodref 7 56), (0, .nameAndType 57 23), (0, u "removeFirst"), (0, .methodref 59 60), (0, .class_ 61), (0, .nameAndType 62 63), (0, u "java/lang/Math"), (0, u "max"), (0, u "(JJ)J"), (3, .fieldref 24 68), (0, .nameAndType 69 19), (0, u "stored"), (4, u "()J"), (0, u "began"), (2, u "(J)V"), (0, u "ended"), (0, u "idle")] 5

def k2c0 : Code := { maxStack := 3, maxLocals := 1, code := prog_17_method_1_code, exceptionTable := #[], attributes := #[] }
def k2m0 : Method := { name := "<init>", desc := "()V", sig := { parameters := [], returnType := none }, accessFlags := 0, code := some k2c0 }
def k2c1 : Code := { maxStack := 2, maxLocals := 1, code := prog_17_method_2_code, exceptionTable := #[], attributes := #[] }
def k2m1 : Method := { name := "position", desc := "()J", sig := { parameters := [], returnType := some .long }, accessFlags := 0, code := some k2c1 }
def k2c2 : Code := { maxStack := 7, maxLocals := 6, code := prog_17_method_3_code, exceptionTable := #[], attributes := #[] }
def k2m2 : Method := { name := "began", desc := "(JJ)V", sig := { parameters := [.long, .long], returnType := none }, accessFlags := 0, code := some k2c2 }
def k2c3 : Code := { maxStack := 3, maxLocals := 3, code := prog_17_method_5_code, exceptionTable := #[], attributes := #[] }
def k2m3 : Method := { name := "ended", desc := "(J)V", sig := { parameters := [.long], returnType := none }, accessFlags := 0, code := some k2c3 }
def k2c4 : Code := { maxStack := 5, maxLocals := 3, code := prog_17_method_7_code, exceptionTable := #[], attributes := #[] }
def k2m4 : Method := { name := "idle", desc := "(J)V", sig := { parameters := [.long], returnType := none }, accessFlags := 0, code := some k2c4 }
def k2c5 : Code := { maxStack := 5, maxLocals := 1, code := prog_17_method_8_code, exceptionTable := #[], attributes := #[] }
def k2m5 : Method := { name := "settle", desc := "()V", sig := { parameters := [], returnType := none }, accessFlags := 2, code := some k2c5 }
/-- com/example/fencepost/fencepost/connector/SlotConfirmation -/
def k2 : Class := { plain "com/example/fencepost/fencepost/connector/SlotConfirmation" (some 0) with
  accessFlags := 48
  interfaces := #[]
  cf := some (fileOf pool2 11 #[.nestMembers #[24]] #[{ accessFlags := 0, nameIndex := 5, descriptorIndex := 6, attributes := #[] }, { accessFlags := 0, nameIndex := 18, descriptorIndex := 74, attributes := #[] }, { accessFlags := 0, nameIndex := 75, descriptorIndex := 31, attributes := #[] }, { accessFlags := 0, nameIndex := 79, descriptorIndex := 78, attributes := #[] }, { accessFlags := 0, nameIndex := 80, descriptorIndex := 78, attributes := #[] }, { accessFlags := 2, nameIndex := 51, descriptorIndex := 6, attributes := #[] }] 48 2 #[] #[{ accessFlags := 18, nameIndex := 14, descriptorIndex := 15, attributes := #[] }, { accessFlags := 2, nameIndex := 18, descriptorIndex := 19, attributes := #[] }])
  fields := #[{ name := "unstored", type := (.object "java/util/ArrayDeque"), accessFlags := 18, slot := 0, constantValue := 0 }, { name := "position", type := .long, accessFlags := 2, slot := 1, constantValue := 0 }]
  methods := #[k2m0, k2m1, k2m2, k2m3, k2m4, k2m5]
  instanceTypes := #[(.object "java/util/ArrayDeque"), .long]
  staticTypes := #[]
  resolved := (((Array.replicate 86 none).setIfInBounds 46 (some (.field 12 1))).setIfInBounds 67 (some (.field 12 2))).setIfInBounds 26 (some (.field 12 0))
  statics := none }

def pool3 : Array CpInfo := pool [(8, .class_ 10), (1, u "java/lang/Iterable"), (24, .class_ 36), (0, u "java/lang/Object")] 25

/-- java/lang/Iterable -/
def k3 : Class := { plain "java/lang/Iterable" (some 0) with
  accessFlags := 1537
  interfaces := #[]
  cf := some (fileOf pool3 8 #[] #[] 1537 35 #[] #[])
  fields := #[]
  methods := #[]
  instanceTypes := #[]
  staticTypes := #[]
  resolved := Array.replicate 62 none
  statics := none }

def pool4 : Array CpInfo := pool [(10, .class_ 12), (1, u "java/util/Collection"), (47, .class_ 61), (0, u "java/lang/Object"), (0, .class_ 63), (0, u "java/lang/Iterable")] 51

/-- java/util/Collection -/
def k4 : Class := { plain "java/util/Collection" (some 0) with
  accessFlags := 1537
  interfaces := #[3]
  cf := some (fileOf pool4 10 #[] #[] 1537 60 #[62] #[])
  fields := #[]
  methods := #[]
  instanceTypes := #[]
  staticTypes := #[]
  resolved := Array.replicate 115 none
  statics := none }

def pool5 : Array CpInfo := pool [(1, .methodref 2 3), (0, .class_ 4), (0, .nameAndType 5 6), (0, u "java/lang/Object"), (0, u "<init>"), (0, u "()V"), (1, .class_ 10), (1, u "java/util/AbstractCollection"), (66, .class_ 78), (0, u "java/util/Collection")] 81

def k5c0 : Code := { maxStack := 1, maxLocals := 1, code := jdk_22_method_1_code, exceptionTable := #[], attributes := #[] }
def k5m0 : Method := { name := "<init>", desc := "()V", sig := { parameters := [], returnType := none }, accessFlags := 4, code := some k5c0 }
/-- java/util/AbstractCollection -/
def k5 : Class := { plain "java/util/AbstractCollection" (some 0) with
  accessFlags := 1057
  interfaces := #[4]
  cf := some (fileOf pool5 8 #[] #[{ accessFlags := 4, nameIndex := 5, descriptorIndex := 6, attributes := #[] }] 1057 2 #[77] #[])
  fields := #[]
  methods := #[k5m0]
  instanceTypes := #[]
  staticTypes := #[]
  resolved := Array.replicate 160 none
  statics := none }

def pool6 : Array CpInfo := pool [(1, .class_ 2), (0, u "java/util/Queue"), (0, .class_ 4), (0, u "java/lang/Object"), (0, .class_ 6), (0, u "java/util/Collection")] 14

/-- java/util/Queue -/
def k6 : Class := { plain "java/util/Queue" (some 0) with
  accessFlags := 1537
  interfaces := #[4]
  cf := some (fileOf pool6 1 #[] #[] 1537 3 #[5] #[])
  fields := #[]
  methods := #[]
  instanceTypes := #[]
  staticTypes := #[]
  resolved := Array.replicate 21 none
  statics := none }

def pool7 : Array CpInfo := pool [(8, .class_ 10), (1, u "java/util/SequencedCollection"), (15, .class_ 27), (0, u "java/lang/Object"), (0, .class_ 29), (0, u "java/util/Collection")] 27

/-- java/util/SequencedCollection -/
def k7 : Class := { plain "java/util/SequencedCollection" (some 0) with
  accessFlags := 1537
  interfaces := #[4]
  cf := some (fileOf pool7 8 #[] #[] 1537 26 #[28] #[])
  fields := #[]
  methods := #[]
  instanceTypes := #[]
  staticTypes := #[]
  resolved := Array.replicate 57 none
  statics := none }

def pool8 : Array CpInfo := pool [(8, .class_ 10), (1, u "java/util/Deque"), (2, .class_ 14), (0, u "java/lang/Object"), (0, .class_ 16), (0, u "java/util/Queue"), (0, .class_ 18), (0, u "java/util/SequencedCollection")] 51

/-- java/util/Deque -/
def k8 : Class := { plain "java/util/Deque" (some 0) with
  accessFlags := 1537
  interfaces := #[6, 7]
  cf := some (fileOf pool8 8 #[] #[] 1537 13 #[15, 17] #[])
  fields := #[]
  methods := #[]
  instanceTypes := #[]
  staticTypes := #[]
  resolved := Array.replicate 70 none
  statics := none }

def pool9 : Array CpInfo := pool [(1, .class_ 2), (0, u "java/lang/Cloneable"), (0, .class_ 4), (0, u "java/lang/Object")] 2

/-- java/lang/Cloneable -/
def k9 : Class := { plain "java/lang/Cloneable" (some 0) with
  accessFlags := 1537
  interfaces := #[]
  cf := some (fileOf pool9 1 #[] #[] 1537 3 #[] #[])
  fields := #[]
  methods := #[]
  instanceTypes := #[]
  staticTypes := #[]
  resolved := Array.replicate 7 none
  statics := none }

def pool10 : Array CpInfo := pool [(1, .class_ 2), (0, u "java/io/Serializable"), (0, .class_ 4), (0, u "java/lang/Object")] 2

/-- java/io/Serializable -/
def k10 : Class := { plain "java/io/Serializable" (some 0) with
  accessFlags := 1537
  interfaces := #[]
  cf := some (fileOf pool10 1 #[] #[] 1537 3 #[] #[])
  fields := #[]
  methods := #[]
  instanceTypes := #[]
  staticTypes := #[]
  resolved := Array.replicate 7 none
  statics := none }

def pool11 : Array CpInfo := pool [(3, .fieldref 4 5), (0, .class_ 6), (0, .nameAndType 7 8), (0, u "java/util/ArrayDeque"), (0, u "elements"), (0, u "[Ljava/lang/Object;"), (4, u "(II)I"), (6, .fieldref 4 21), (0, .nameAndType 22 23), (0, u "tail"), (0, u "I"), (0, .fieldref 4 25), (0, .nameAndType 26 23), (0, u "head"), (12, u "<init>"), (2, .methodref 43 44), (0, .class_ 45), (0, .nameAndType 39 46), (0, u "java/util/AbstractCollection"), (0, u "()V"), (0, .class_ 48), (0, u "java/lang/Object"), (19, .methodref 4 69), (0, .nameAndType 70 13), (0, u "dec"), (3, .methodref 4 75), (0, .nameAndType 76 13), (0, u "inc"), (12, u "(Ljava/lang/Object;)V"), (0, .methodref 4 91), (0, .nameAndType 92 89), (0, u "addLast"), (0, .methodref 4 94), (0, .nameAndType 95 96), (0, u "pollFirst"), (0, u "()Ljava/lang/Object;"), (6, .methodref 4 104), (0, .nameAndType 105 106), (0, u "elementAt"), (0, u "([Ljava/lang/Object;I)Ljava/lang/Object;"), (3, u "(Ljava/lang/Object;)Z"), (9, u "removeFirst"), (2, u "getFirst"), (7, .class_ 132), (0, u "java/util/ArrayDeque$DeqIterator"), (3, .class_ 137), (0, u "java/util/ArrayDeque$DescendingIterator"), (1, .class_ 140), (0, u "java/util/ArrayDeque$DeqSpliterator"), (137, .class_ 279), (0, u "java/util/Deque"), (0, .class_ 281), (0, u "java/lang/Cloneable"), (0, .class_ 283), (0, u "java/io/Serializable"), (0, u "MAX_ARRAY_SIZE"), (1, u "serialVersionUID"), (0, u "J"), (43, u "getLast"), (0, u "peekLast"), (3, u "add"), (10, u "isEmpty"), (0, u "()Z")] 89

def k11c0 : Code := { maxStack := 2, maxLocals := 1, code := jdk_21_method_3_code, exceptionTable := #[], attributes := #[] }
def k11m0 : Method := { name := "<init>", desc := "()V", sig := { parameters := [], returnType := none }, accessFlags := 1, code := some k11c0 }
def k11c1 : Code := { maxStack := 2, maxLocals := 2, code := jdk_21_method_6_code, exceptionTable := #[], attributes := #[] }
def k11m1 : Method := { name := "inc", desc := "(II)I", sig := { parameters := [.int, .int], returnType := some .int }, accessFlags := 24, code := some k11c1 }
def k11c2 : Code := { maxStack := 2, maxLocals := 2, code := jdk_21_method_7_code, exceptionTable := #[], attributes := #[] }
def k11m2 : Method := { name := "dec", desc := "(II)I", sig := { parameters := [.int, .int], returnType := some .int }, accessFlags := 24, code := some k11c2 }
def k11c3 : Code := { maxStack := 2, maxLocals := 2, code := jdk_21_method_10_code, exceptionTable := #[], attributes := #[] }
def k11m3 : Method := { name := "elementAt", desc := "([Ljava/lang/Object;I)Ljava/lang/Object;", sig := { parameters := [(.array (.object "java/lang/Object")), .int], returnType := some (.object "java/lang/Object") }, accessFlags := 24, code := some k11c3 }
def k11c4 : Code := { maxStack := 4, maxLocals := 3, code := jdk_21_method_13_code, exceptionTable := #[], attributes := #[] }
def k11m4 : Method := { name := "addLast", desc := "(Ljava/lang/Object;)V", sig := { parameters := [(.object "java/lang/Object")], returnType := none }, accessFlags := 1, code := some k11c4 }
def k11c5 : Code := { maxStack := 2, maxLocals := 2, code := jdk_21_method_18_code, exceptionTable := #[], attributes := #[] }
def k11m5 : Method := { name := "removeFirst", desc := "()Ljava/lang/Object;", sig := { parameters := [], returnType := some (.object "java/lang/Object") }, accessFlags := 1, code := some k11c5 }
def k11c6 : Code := { maxStack := 3, maxLocals := 4, code := jdk_21_method_20_code, exceptionTable := #[], attributes := #[] }
def k11m6 : Method := { name := "pollFirst", desc := "()Ljava/lang/Object;", sig := { parameters := [], returnType := some (.object "java/lang/Object") }, accessFlags := 1, code := some k11c6 }
def k11c7 : Code := { maxStack := 2, maxLocals := 2, code := jdk_21_method_22_code, exceptionTable := #[], attributes := #[] }
def k11m7 : Method := { name := "getFirst", desc := "()Ljava/lang/Object;", sig := { parameters := [], returnType := some (.object "java/lang/Object") }, accessFlags := 1, code := some k11c7 }
def k11c8 : Code := { maxStack := 3, maxLocals := 3, code := jdk_21_method_23_code, exceptionTable := #[], attributes := #[] }
def k11m8 : Method := { name := "getLast", desc := "()Ljava/lang/Object;", sig := { parameters := [], returnType := some (.object "java/lang/Object") }, accessFlags := 1, code := some k11c8 }
def k11c9 : Code := { maxStack := 3, maxLocals := 2, code := jdk_21_method_25_code, exceptionTable := #[], attributes := #[] }
def k11m9 : Method := { name := "peekLast", desc := "()Ljava/lang/Object;", sig := { parameters := [], returnType := some (.object "java/lang/Object") }, accessFlags := 1, code := some k11c9 }
def k11c10 : Code := { maxStack := 2, maxLocals := 2, code := jdk_21_method_28_code, exceptionTable := #[], attributes := #[] }
def k11m10 : Method := { name := "add", desc := "(Ljava/lang/Object;)Z", sig := { parameters := [(.object "java/lang/Object")], returnType := some .boolean }, accessFlags := 1, code := some k11c10 }
def k11c11 : Code := { maxStack := 2, maxLocals := 1, code := jdk_21_method_38_code, exceptionTable := #[], attributes := #[] }
def k11m11 : Method := { name := "isEmpty", desc := "()Z", sig := { parameters := [], returnType := some .boolean }, accessFlags := 1, code := some k11c11 }
/-- java/util/ArrayDeque -/
def k11 : Class := { plain "java/util/ArrayDeque" (some 5) with
  accessFlags := 33
  interfaces := #[8, 9, 10]
  cf := some (fileOf pool11 4 #[.nestMembers #[139, 136, 131]] #[{ accessFlags := 1, nameIndex := 39, descriptorIndex := 46, attributes := #[] }, { accessFlags := 24, nameIndex := 76, descriptorIndex := 13, attributes := #[] }, { accessFlags := 24, nameIndex := 70, descriptorIndex := 13, attributes := #[] }, { accessFlags := 24, nameIndex := 105, descriptorIndex := 106, attributes := #[] }, { accessFlags := 1, nameIndex := 92, descriptorIndex := 89, attributes := #[] }, { accessFlags := 1, nameIndex := 120, descriptorIndex := 96, attributes := #[] }, { accessFlags := 1, nameIndex := 95, descriptorIndex := 96, attributes := #[] }, { accessFlags := 1, nameIndex := 123, descriptorIndex := 96, attributes := #[] }, { accessFlags := 1, nameIndex := 331, descriptorIndex := 96, attributes := #[] }, { accessFlags := 1, nameIndex := 332, descriptorIndex := 96, attributes := #[] }, { accessFlags := 1, nameIndex := 336, descriptorIndex := 110, attributes := #[] }, { accessFlags := 1, nameIndex := 347, descriptorIndex := 348, attributes := #[] }] 33 43 #[278, 280, 282] #[{ accessFlags := 128, nameIndex := 7, descriptorIndex := 8, attributes := #[] }, { accessFlags := 128, nameIndex := 26, descriptorIndex := 23, attributes := #[] }, { accessFlags := 128, nameIndex := 22, descriptorIndex := 23, attributes := #[] }, { accessFlags := 26, nameIndex := 284, descriptorIndex := 23, attributes := #[] }, { accessFlags := 26, nameIndex := 286, descriptorIndex := 287, attributes := #[] }])
  fields := #[{ name := "elements", type := (.array (.object "java/lang/Object")), accessFlags := 128, slot := 0, constantValue := 0 }, { name := "head", type := .int, accessFlags := 128, slot := 1, constantValue := 0 }, { name := "tail", type := .int, accessFlags := 128, slot := 2, constantValue := 0 }, { name := "MAX_ARRAY_SIZE", type := .int, accessFlags := 26, slot := 0, constantValue := 0 }, { name := "serialVersionUID", type := .long, accessFlags := 26, slot := 1, constantValue := 0 }]
  methods := #[k11m0, k11m1, k11m2, k11m3, k11m4, k11m5, k11m6, k11m7, k11m8, k11m9, k11m10, k11m11]
  instanceTypes := #[(.array (.object "java/lang/Object")), .int, .int]
  staticTypes := #[.int, .long]
  resolved := Array.replicate 438 none
  statics := none }

def pool12 : Array CpInfo := pool [(1, .methodref 2 3), (0, .class_ 4), (0, .nameAndType 5 6), (0, u "java/lang/Object"), (0, u "<init>"), (0, u "()V"), (0, .long 18446744073709551615), (1, .fieldref 10 11), (0, .class_ 12), (0, .nameAndType 13 14), (0, u "com/example/fencepost/fencepost/connector/SlotConfirmation$Transaction"), (0, u "changes"), (0, u "J"), (0, .fieldref 10 16), (0, .nameAndType 17 14), (0, u "commit"), (0, .fieldref 10 19), (0, .nameAndType 20 14), (0, u "stored"), (0, u "(JJ)V"), (5, .class_ 28), (0, u "com/example/fencepost/fencepost/connector/SlotConfirmation")] 2

def k12c0 : Code := { maxStack := 3, maxLocals := 5, code := prog_18_method_1_code, exceptionTable := #[], attributes := #[] }
def k12m0 : Method := { name := "<init>", desc := "(JJ)V", sig := { parameters := [.long, .long], returnType := none }, accessFlags := 0, code := some k12c0 }
/-- com/example/fencepost/fencepost/connector/SlotConfirmation$Transaction -/
def k12 : Class := { plain "com/example/fencepost/fencepost/connector/SlotConfirmation$Transaction" (some 0) with
  accessFlags := 48
  interfaces := #[]
  cf := some (fileOf pool12 10 #[.nestHost 27] #[{ accessFlags := 0, nameIndex := 5, descriptorIndex := 21, attributes := #[] }] 48 2 #[] #[{ accessFlags := 18, nameIndex := 17, descriptorIndex := 14, attributes := #[] }, { accessFlags := 2, nameIndex := 13, descriptorIndex := 14, attributes := #[] }, { accessFlags := 2, nameIndex := 20, descriptorIndex := 14, attributes := #[] }])
  fields := #[{ name := "commit", type := .long, accessFlags := 18, slot := 0, constantValue := 0 }, { name := "changes", type := .long, accessFlags := 2, slot := 1, constantValue := 0 }, { name := "stored", type := .long, accessFlags := 2, slot := 2, constantValue := 0 }]
  methods := #[k12m0]
  instanceTypes := #[.long, .long, .long]
  staticTypes := #[]
  resolved := Array.replicate 31 none
  statics := none }

def pool13 : Array CpInfo := pool [(1, .class_ 2), (0, u "java/lang/Math"), (1, .class_ 6), (1, u "java/lang/Object"), (0, u "<init>"), (0, u "()V"), (89, .class_ 100), (1, u "java/lang/Math$RandomNumberGeneratorHolder"), (20, u "(JJ)J"), (50, u "negativeZeroFloatBits"), (0, u "J"), (2, u "negativeZeroDoubleBits"), (21, u "max"), (46, u "$assertionsDisabled"), (0, u "Z"), (91, u "twoToTheDoubleScaleDown"), (0, u "D"), (4, u "twoToTheDoubleScaleUp"), (9, u "E"), (3, u "PI"), (2, u "TAU"), (2, u "DEGREES_TO_RADIANS"), (0, u "RADIANS_TO_DEGREES")] 94

def k13m0 : Method := { name := "<init>", desc := "()V", sig := { parameters := [], returnType := none }, accessFlags := 2, code := none }
def k13c1 : Code := { maxStack := 4, maxLocals := 4, code := jdk_29_method_66_code, exceptionTable := #[], attributes := #[] }
def k13m1 : Method := { name := "max", desc := "(JJ)J", sig := { parameters := [.long, .long], returnType := some .long }, accessFlags := 9, code := some k13c1 }
/-- java/lang/Math -/
def k13 : Class := { plain "java/lang/Math" (some 0) with
  accessFlags := 49
  interfaces := #[]
  cf := some (fileOf pool13 1 #[.nestMembers #[98]] #[{ accessFlags := 2, nameIndex := 7, descriptorIndex := 8, attributes := #[] }, { accessFlags := 9, nameIndex := 198, descriptorIndex := 121, attributes := #[] }] 49 4 #[] #[{ accessFlags := 25, nameIndex := 354, descriptorIndex := 339, attributes := #[] }, { accessFlags := 25, nameIndex := 358, descriptorIndex := 339, attributes := #[] }, { accessFlags := 25, nameIndex := 361, descriptorIndex := 339, attributes := #[] }, { accessFlags := 26, nameIndex := 364, descriptorIndex := 339, attributes := #[] }, { accessFlags := 26, nameIndex := 365, descriptorIndex := 339, attributes := #[] }, { accessFlags := 26, nameIndex := 172, descriptorIndex := 173, attributes := #[] }, { accessFlags := 26, nameIndex := 176, descriptorIndex := 173, attributes := #[] }, { accessFlags := 8, nameIndex := 344, descriptorIndex := 339, attributes := #[] }, { accessFlags := 8, nameIndex := 338, descriptorIndex := 339, attributes := #[] }, { accessFlags := 4120, nameIndex := 245, descriptorIndex := 246, attributes := #[] }])
  fields := #[{ name := "E", type := .double, accessFlags := 25, slot := 0, constantValue := 0 }, { name := "PI", type := .double, accessFlags := 25, slot := 1, constantValue := 0 }, { name := "TAU", type := .double, accessFlags := 25, slot := 2, constantValue := 0 }, { name := "DEGREES_TO_RADIANS", type := .double, accessFlags := 26, slot := 3, constantValue := 0 }, { name := "RADIANS_TO_DEGREES", type := .double, accessFlags := 26, slot := 4, constantValue := 0 }, { name := "negativeZeroFloatBits", type := .long, accessFlags := 26, slot := 5, constantValue := 0 }, { name := "negativeZeroDoubleBits", type := .long, accessFlags := 26, slot := 6, constantValue := 0 }, { name := "twoToTheDoubleScaleUp", type := .double, accessFlags := 8, slot := 7, constantValue := 0 }, { name := "twoToTheDoubleScaleDown", type := .double, accessFlags := 8, slot := 8, constantValue := 0 }, { name := "$assertionsDisabled", type := .boolean, accessFlags := 4120, slot := 9, constantValue := 0 }]
  methods := #[k13m0, k13m1]
  instanceTypes := #[]
  staticTypes := #[.double, .double, .double, .double, .double, .long, .long, .double, .double, .boolean]
  resolved := Array.replicate 460 none
  statics := none }

/-- the primitive byte -/
def k14 : Class := { plain "byte" none with kind := .primitive 'B', accessFlags := 0x411 }
/-- [B -/
def k15 : Class := { plain "[B" (some 0) with kind := .array 14 .byte, interfaces := #[9, 10], accessFlags := 1041 }

/-- the primitive int -/
def k16 : Class := { plain "int" none with kind := .primitive 'I', accessFlags := 0x411 }
/-- [I -/
def k17 : Class := { plain "[I" (some 0) with kind := .array 16 .int, interfaces := #[9, 10], accessFlags := 1041 }

/-- [Ljava/lang/Object; -/
def k18 : Class := { plain "[Ljava/lang/Object;" (some 0) with kind := .array 0 (.object "java/lang/Object"), interfaces := #[9, 10], accessFlags := 1041 }

def heap : Heap := #[]
def classes : Array Class := #[k0, k1, k2, k3, k4, k5, k6, k7, k8, k9, k10, k11, k12, k13, k14, k15, k16, k17, k18]
def interned : List (Array UInt16 × Addr) := []
def slotsUsed : Nat := 0
def theMethod : MethodId := ⟨1, 2⟩
def args0 : Array Value := #[.long 1, .long 2, .long 3, .int 1]
def aboutOver (below : List Frame) : State where
  vm := { classes := classes, interned := interned.toArray }
  heap := heap
  slotsUsed := slotsUsed
  threads := #[{ frames := .invoking theMethod args0 :: below }]
def below0 : List Frame := [.native { method := ⟨0, 0⟩, args := #[] }]
def about1 : State := aboutOver below0
def p0 : Program := .bare "" "" ""
def e0 : Env := launch0.env 0 0 0
theorem w_frames : about1.frames = Frame.invoking theMethod args0 :: below0 := rfl
set_option maxRecDepth 65536 in
theorem w_args : argsFit about1.vm theMethod args0 = true := by decide +kernel
set_option maxRecDepth 65536 in
theorem w_heap : heapFits about1 = true := by decide +kernel
set_option maxRecDepth 65536 in
theorem w_runnable : about1.curStatus? = some .runnable := by decide +kernel
set_option maxRecDepth 65536 in
theorem w_alone : about1.alone = true := by decide +kernel
set_option maxRecDepth 65536 in
theorem w_named : about1.methodNamed? x = some theMethod := by decide +kernel
set_option maxRecDepth 65536 in
theorem w_hears : about1.hears theMethod below0 = true := by decide +kernel
set_option maxRecDepth 65536 in
theorem w_ripe : about1.ripe theMethod args0 below0 = true := by decide +kernel
theorem w_running : about1.status = .running := rfl
set_option maxRecDepth 65536 in
theorem w_room : about1.hasRoom e0.platform room_1 = true :=
  launch0.hasRoom_least _ room_1 (by decide +kernel) (by decide +kernel) (by decide +kernel) (by decide +kernel) (by decide +kernel) (by decide +kernel)
theorem allAtoms_all (ts : List Jvm.Cond) (a : Array Jvm.Value) (st : Jvm.State) : (allAtoms ts).before a st = ts.all (fun c => c.before a st) := by
  induction ts with
  | nil => rfl
  | cons c t ih =>
    show (Jvm.Cond.and c (allAtoms t)).before a st = _
    rw [Jvm.Cond.before_and, ih, List.all_cons]
def words1 : List Jvm.Cond := Jvm.Cond.code x code maxLocals ret :: tables_1
/-- a 'code' word, met by the world's own term for the bytes: nothing is compared byte by byte -/
theorem code_word {y : MethodName} {bytes : ByteArray} {mx : Nat} {rt : Option FieldType} {a : Array Value} {s : State} {m : MethodId} {meth : Method} {c : Code} (h1 : s.methodNamed? y = some m) (h2 : s.vm.method? m = some meth) (h3 : meth.code = some c) (h4 : c.code = bytes)
    (h5 : (c.maxLocals == mx && c.exceptionTable.isEmpty && decide (c.maxStack ≤ mostOperands) && decide (meth.sig.returnType = rt) && !meth.locks && decide (parseMethodDescriptor y.desc = some meth.sig)) = true) : (Jvm.Cond.code y bytes mx rt).before a s = true := by
  simp only [Bool.and_eq_true, beq_iff_eq, Bool.not_eq_true', decide_eq_true_eq] at h5
  obtain ⟨⟨⟨⟨⟨g1, g2⟩, g3⟩, g4⟩, g5⟩, g6⟩ := h5
  simp [Cond.before, Cond.holds, Cond.value, h1, h2, h3, h4, g1, g2, g3, g4, g5, g6]
def isCode : Jvm.Cond → Bool
  | .code _ _ _ _ => true
  | _ => false
theorem all_split {L : List Jvm.Cond} {P : Jvm.Cond → Bool} (h1 : L.all (fun c => isCode c || P c) = true) (h2 : ∀ c ∈ L.filter isCode, P c = true) : L.all P = true := by
  refine List.all_eq_true.mpr fun c hc => ?_
  have h := List.all_eq_true.mp h1 c hc
  rcases Bool.eq_false_or_eq_true (isCode c) with hi | hi
  · exact h2 c (List.mem_filter.mpr ⟨hc, hi⟩)
  · simpa [hi] using h
set_option maxRecDepth 65536 in
theorem w_c0 : (Jvm.Cond.code x code maxLocals ret).before args0 about1 = true := code_word (m := ⟨1, 2⟩) (meth := k1m2) (c := k1c2) (by decide +kernel) rfl rfl rfl (by decide +kernel)
set_option maxRecDepth 65536 in
theorem w_c1 : (Jvm.Cond.code ({ cls := "com/example/fencepost/fencepost/connector/SlotConfirmation", name := "<init>", desc := "()V" } : Jvm.MethodName) prog_17_method_1_code (1 : Nat) (Option.none : Option Jvm.ClassFile.FieldType)).before args0 about1 = true := code_word (m := ⟨2, 0⟩) (meth := k2m0) (c := k2c0) (by decide +kernel) rfl rfl rfl (by decide +kernel)
set_option maxRecDepth 65536 in
theorem w_c2 : (Jvm.Cond.code ({ cls := "java/lang/Object", name := "<init>", desc := "()V" } : Jvm.MethodName) object_method_1_code (1 : Nat) (Option.none : Option Jvm.ClassFile.FieldType)).before args0 about1 = true := code_word (m := ⟨0, 0⟩) (meth := k0m0) (c := k0c0) (by decide +kernel) rfl rfl rfl (by decide +kernel)
set_option maxRecDepth 65536 in
theorem w_c3 : (Jvm.Cond.code ({ cls := "java/util/ArrayDeque", name := "<init>", desc := "()V" } : Jvm.MethodName) jdk_21_method_3_code (1 : Nat) (Option.none : Option Jvm.ClassFile.FieldType)).before args0 about1 = true := code_word (m := ⟨11, 0⟩) (meth := k11m0) (c := k11c0) (by decide +kernel) rfl rfl rfl (by decide +kernel)
set_option maxRecDepth 65536 in
theorem w_c4 : (Jvm.Cond.code ({ cls := "java/util/AbstractCollection", name := "<init>", desc := "()V" } : Jvm.MethodName) jdk_22_method_1_code (1 : Nat) (Option.none : Option Jvm.ClassFile.FieldType)).before args0 about1 = true := code_word (m := ⟨5, 0⟩) (meth := k5m0) (c := k5c0) (by decide +kernel) rfl rfl rfl (by decide +kernel)
set_option maxRecDepth 65536 in
theorem w_c5 : (Jvm.Cond.code ({ cls := "com/example/fencepost/fencepost/connector/SlotConfirmation", name := "began", desc := "(JJ)V" } : Jvm.MethodName) prog_17_method_3_code (6 : Nat) (Option.none : Option Jvm.ClassFile.FieldType)).before args0 about1 = true := code_word (m := ⟨2, 2⟩) (meth := k2m2) (c := k2c2) (by decide +kernel) rfl rfl rfl (by decide +kernel)
set_option maxRecDepth 65536 in
theorem w_c6 : (Jvm.Cond.code ({ cls := "java/util/ArrayDeque", name := "peekLast", desc := "()Ljava/lang/Object;" } : Jvm.MethodName) jdk_21_method_25_code (2 : Nat) (Option.some (Jvm.ClassFile.FieldType.object "java/lang/Object"))).before args0 about1 = true := code_word (m := ⟨11, 9⟩) (meth := k11m9) (c := k11c9) (by decide +kernel) rfl rfl rfl (by decide +kernel)
set_option maxRecDepth 65536 in
theorem w_c7 : (Jvm.Cond.code ({ cls := "java/util/ArrayDeque", name := "dec", desc := "(II)I" } : Jvm.MethodName) jdk_21_method_7_code (2 : Nat) (Option.some Jvm.ClassFile.FieldType.int)).before args0 about1 = true := code_word (m := ⟨11, 2⟩) (meth := k11m2) (c := k11c2) (by decide +kernel) rfl rfl rfl (by decide +kernel)
set_option maxRecDepth 65536 in
theorem w_c8 : (Jvm.Cond.code ({ cls := "java/util/ArrayDeque", name := "elementAt", desc := "([Ljava/lang/Object;I)Ljava/lang/Object;" } : Jvm.MethodName) jdk_21_method_10_code (2 : Nat) (Option.some (Jvm.ClassFile.FieldType.object "java/lang/Object"))).before args0 about1 = true := code_word (m := ⟨11, 3⟩) (meth := k11m3) (c := k11c3) (by decide +kernel) rfl rfl rfl (by decide +kernel)
set_option maxRecDepth 65536 in
theorem w_c9 : (Jvm.Cond.code ({ cls := "com/example/fencepost/fencepost/connector/SlotConfirmation$Transaction", name := "<init>", desc := "(JJ)V" } : Jvm.MethodName) prog_18_method_1_code (5 : Nat) (Option.none : Option Jvm.ClassFile.FieldType)).before args0 about1 = true := code_word (m := ⟨12, 0⟩) (meth := k12m0) (c := k12c0) (by decide +kernel) rfl rfl rfl (by decide +kernel)
set_option maxRecDepth 65536 in
theorem w_c10 : (Jvm.Cond.code ({ cls := "java/util/ArrayDeque", name := "add", desc := "(Ljava/lang/Object;)Z" } : Jvm.MethodName) jdk_21_method_28_code (2 : Nat) (Option.some Jvm.ClassFile.FieldType.boolean)).before args0 about1 = true := code_word (m := ⟨11, 10⟩) (meth := k11m10) (c := k11c10) (by decide +kernel) rfl rfl rfl (by decide +kernel)
set_option maxRecDepth 65536 in
theorem w_c11 : (Jvm.Cond.code ({ cls := "java/util/ArrayDeque", name := "addLast", desc := "(Ljava/lang/Object;)V" } : Jvm.MethodName) jdk_21_method_13_code (3 : Nat) (Option.none : Option Jvm.ClassFile.FieldType)).before args0 about1 = true := code_word (m := ⟨11, 4⟩) (meth := k11m4) (c := k11c4) (by decide +kernel) rfl rfl rfl (by decide +kernel)
set_option maxRecDepth 65536 in
theorem w_c12 : (Jvm.Cond.code ({ cls := "java/util/ArrayDeque", name := "inc", desc := "(II)I" } : Jvm.MethodName) jdk_21_method_6_code (2 : Nat) (Option.some Jvm.ClassFile.FieldType.int)).before args0 about1 = true := code_word (m := ⟨11, 1⟩) (meth := k11m1) (c := k11c1) (by decide +kernel) rfl rfl rfl (by decide +kernel)
set_option maxRecDepth 65536 in
theorem w_c13 : (Jvm.Cond.code ({ cls := "com/example/fencepost/fencepost/connector/SlotConfirmation", name := "ended", desc := "(J)V" } : Jvm.MethodName) prog_17_method_5_code (3 : Nat) (Option.none : Option Jvm.ClassFile.FieldType)).before args0 about1 = true := code_word (m := ⟨2, 3⟩) (meth := k2m3) (c := k2c3) (by decide +kernel) rfl rfl rfl (by decide +kernel)
set_option maxRecDepth 65536 in
theorem w_c14 : (Jvm.Cond.code ({ cls := "java/util/ArrayDeque", name := "getLast", desc := "()Ljava/lang/Object;" } : Jvm.MethodName) jdk_21_method_23_code (3 : Nat) (Option.some (Jvm.ClassFile.FieldType.object "java/lang/Object"))).before args0 about1 = true := code_word (m := ⟨11, 8⟩) (meth := k11m8) (c := k11c8) (by decide +kernel) rfl rfl rfl (by decide +kernel)
set_option maxRecDepth 65536 in
theorem w_c15 : (Jvm.Cond.code ({ cls := "com/example/fencepost/fencepost/connector/SlotConfirmation", name := "settle", desc := "()V" } : Jvm.MethodName) prog_17_method_8_code (1 : Nat) (Option.none : Option Jvm.ClassFile.FieldType)).before args0 about1 = true := code_word (m := ⟨2, 5⟩) (meth := k2m5) (c := k2c5) (by decide +kernel) rfl rfl rfl (by decide +kernel)
set_option maxRecDepth 65536 in
theorem w_c16 : (Jvm.Cond.code ({ cls := "java/util/ArrayDeque", name := "isEmpty", desc := "()Z" } : Jvm.MethodName) jdk_21_method_38_code (1 : Nat) (Option.some Jvm.ClassFile.FieldType.boolean)).before args0 about1 = true := code_word (m := ⟨11, 11⟩) (meth := k11m11) (c := k11c11) (by decide +kernel) rfl rfl rfl (by decide +kernel)
set_option maxRecDepth 65536 in
theorem w_c17 : (Jvm.Cond.code ({ cls := "java/util/ArrayDeque", name := "getFirst", desc := "()Ljava/lang/Object;" } : Jvm.MethodName) jdk_21_method_22_code (2 : Nat) (Option.some (Jvm.ClassFile.FieldType.object "java/lang/Object"))).before args0 about1 = true := code_word (m := ⟨11, 7⟩) (meth := k11m7) (c := k11c7) (by decide +kernel) rfl rfl rfl (by decide +kernel)
set_option maxRecDepth 65536 in
theorem w_c18 : (Jvm.Cond.code ({ cls := "java/util/ArrayDeque", name := "removeFirst", desc := "()Ljava/lang/Object;" } : Jvm.MethodName) jdk_21_method_18_code (2 : Nat) (Option.some (Jvm.ClassFile.FieldType.object "java/lang/Object"))).before args0 about1 = true := code_word (m := ⟨11, 5⟩) (meth := k11m5) (c := k11c5) (by decide +kernel) rfl rfl rfl (by decide +kernel)
set_option maxRecDepth 65536 in
theorem w_c19 : (Jvm.Cond.code ({ cls := "java/util/ArrayDeque", name := "pollFirst", desc := "()Ljava/lang/Object;" } : Jvm.MethodName) jdk_21_method_20_code (4 : Nat) (Option.some (Jvm.ClassFile.FieldType.object "java/lang/Object"))).before args0 about1 = true := code_word (m := ⟨11, 6⟩) (meth := k11m6) (c := k11c6) (by decide +kernel) rfl rfl rfl (by decide +kernel)
set_option maxRecDepth 65536 in
theorem w_c20 : (Jvm.Cond.code ({ cls := "java/lang/Math", name := "max", desc := "(JJ)J" } : Jvm.MethodName) jdk_29_method_66_code (4 : Nat) (Option.some Jvm.ClassFile.FieldType.long)).before args0 about1 = true := code_word (m := ⟨13, 1⟩) (meth := k13m1) (c := k13c1) (by decide +kernel) rfl rfl rfl (by decide +kernel)
set_option maxRecDepth 65536 in
theorem w_c21 : (Jvm.Cond.code ({ cls := "com/example/fencepost/fencepost/connector/SlotConfirmation", name := "position", desc := "()J" } : Jvm.MethodName) prog_17_method_2_code (1 : Nat) (Option.some Jvm.ClassFile.FieldType.long)).before args0 about1 = true := code_word (m := ⟨2, 1⟩) (meth := k2m1) (c := k2c1) (by decide +kernel) rfl rfl rfl (by decide +kernel)
set_option maxRecDepth 65536 in
theorem w_c22 : (Jvm.Cond.code ({ cls := "com/example/fencepost/fencepost/connector/SlotConfirmationIdlePinLaw", name := "max", desc := "(JJ)J" } : Jvm.MethodName) method_2_code (4 : Nat) (Option.some Jvm.ClassFile.FieldType.long)).before args0 about1 = true := code_word (m := ⟨1, 1⟩) (meth := k1m1) (c := k1c1) (by decide +kernel) rfl rfl rfl (by decide +kernel)
set_option maxRecDepth 65536 in
theorem w_c23 : (Jvm.Cond.code ({ cls := "com/example/fencepost/fencepost/connector/SlotConfirmation", name := "idle", desc := "(J)V" } : Jvm.MethodName) prog_17_method_7_code (3 : Nat) (Option.none : Option Jvm.ClassFile.FieldType)).before args0 about1 = true := code_word (m := ⟨2, 4⟩) (meth := k2m4) (c := k2c4) (by decide +kernel) rfl rfl rfl (by decide +kernel)
def codes1 : List Jvm.Cond := [Jvm.Cond.code x code maxLocals ret, Jvm.Cond.code ({ cls := "com/example/fencepost/fencepost/connector/SlotConfirmation", name := "<init>", desc := "()V" } : Jvm.MethodName) prog_17_method_1_code (1 : Nat) (Option.none : Option Jvm.ClassFile.FieldType), Jvm.Cond.code ({ cls := "java/lang/Object", name := "<init>", desc := "()V" } : Jvm.MethodName) object_method_1_code (1 : Nat) (Option.none : Option Jvm.ClassFile.FieldType), Jvm.Cond.code ({ cls := "java/util/ArrayDeque", name := "<init>", desc := "()V" } : Jvm.MethodName) jdk_21_method_3_code (1 : Nat) (Option.none : Option Jvm.ClassFile.FieldType), Jvm.Cond.code ({ cls := "java/util/AbstractCollection", name := "<init>", desc := "()V" } : Jvm.MethodName) jdk_22_method_1_code (1 : Nat) (Option.none : Option Jvm.ClassFile.FieldType), Jvm.Cond.code ({ cls := "com/example/fencepost/fencepost/connector/SlotConfirmation", name := "began", desc := "(JJ)V" } : Jvm.MethodName) prog_17_method_3_code (6 : Nat) (Option.none : Option Jvm.ClassFile.FieldType), Jvm.Cond.code ({ cls := "java/util/ArrayDeque", name := "peekLast", desc := "()Ljava/lang/Object;" } : Jvm.MethodName) jdk_21_method_25_code (2 : Nat) (Option.some (Jvm.ClassFile.FieldType.object "java/lang/Object")), Jvm.Cond.code ({ cls := "java/util/ArrayDeque", name := "dec", desc := "(II)I" } : Jvm.MethodName) jdk_21_method_7_code (2 : Nat) (Option.some Jvm.ClassFile.FieldType.int), Jvm.Cond.code ({ cls := "java/util/ArrayDeque", name := "elementAt", desc := "([Ljava/lang/Object;I)Ljava/lang/Object;" } : Jvm.MethodName) jdk_21_method_10_code (2 : Nat) (Option.some (Jvm.ClassFile.FieldType.object "java/lang/Object")), Jvm.Cond.code ({ cls := "com/example/fencepost/fencepost/connector/SlotConfirmation$Transaction", name := "<init>", desc := "(JJ)V" } : Jvm.MethodName) prog_18_method_1_code (5 : Nat) (Option.none : Option Jvm.ClassFile.FieldType), Jvm.Cond.code ({ cls := "java/util/ArrayDeque", name := "add", desc := "(Ljava/lang/Object;)Z" } : Jvm.MethodName) jdk_21_method_28_code (2 : Nat) (Option.some Jvm.ClassFile.FieldType.boolean), Jvm.Cond.code ({ cls := "java/util/ArrayDeque", name := "addLast", desc := "(Ljava/lang/Object;)V" } : Jvm.MethodName) jdk_21_method_13_code (3 : Nat) (Option.none : Option Jvm.ClassFile.FieldType), Jvm.Cond.code ({ cls := "java/util/ArrayDeque", name := "inc", desc := "(II)I" } : Jvm.MethodName) jdk_21_method_6_code (2 : Nat) (Option.some Jvm.ClassFile.FieldType.int), Jvm.Cond.code ({ cls := "com/example/fencepost/fencepost/connector/SlotConfirmation", name := "ended", desc := "(J)V" } : Jvm.MethodName) prog_17_method_5_code (3 : Nat) (Option.none : Option Jvm.ClassFile.FieldType), Jvm.Cond.code ({ cls := "java/util/ArrayDeque", name := "getLast", desc := "()Ljava/lang/Object;" } : Jvm.MethodName) jdk_21_method_23_code (3 : Nat) (Option.some (Jvm.ClassFile.FieldType.object "java/lang/Object")), Jvm.Cond.code ({ cls := "com/example/fencepost/fencepost/connector/SlotConfirmation", name := "settle", desc := "()V" } : Jvm.MethodName) prog_17_method_8_code (1 : Nat) (Option.none : Option Jvm.ClassFile.FieldType), Jvm.Cond.code ({ cls := "java/util/ArrayDeque", name := "isEmpty", desc := "()Z" } : Jvm.MethodName) jdk_21_method_38_code (1 : Nat) (Option.some Jvm.ClassFile.FieldType.boolean), Jvm.Cond.code ({ cls := "java/util/ArrayDeque", name := "getFirst", desc := "()Ljava/lang/Object;" } : Jvm.MethodName) jdk_21_method_22_code (2 : Nat) (Option.some (Jvm.ClassFile.FieldType.object "java/lang/Object")), Jvm.Cond.code ({ cls := "java/util/ArrayDeque", name := "removeFirst", desc := "()Ljava/lang/Object;" } : Jvm.MethodName) jdk_21_method_18_code (2 : Nat) (Option.some (Jvm.ClassFile.FieldType.object "java/lang/Object")), Jvm.Cond.code ({ cls := "java/util/ArrayDeque", name := "pollFirst", desc := "()Ljava/lang/Object;" } : Jvm.MethodName) jdk_21_method_20_code (4 : Nat) (Option.some (Jvm.ClassFile.FieldType.object "java/lang/Object")), Jvm.Cond.code ({ cls := "java/lang/Math", name := "max", desc := "(JJ)J" } : Jvm.MethodName) jdk_29_method_66_code (4 : Nat) (Option.some Jvm.ClassFile.FieldType.long), Jvm.Cond.code ({ cls := "com/example/fencepost/fencepost/connector/SlotConfirmation", name := "position", desc := "()J" } : Jvm.MethodName) prog_17_method_2_code (1 : Nat) (Option.some Jvm.ClassFile.FieldType.long), Jvm.Cond.code ({ cls := "com/example/fencepost/fencepost/connector/SlotConfirmationIdlePinLaw", name := "max", desc := "(JJ)J" } : Jvm.MethodName) method_2_code (4 : Nat) (Option.some Jvm.ClassFile.FieldType.long), Jvm.Cond.code ({ cls := "com/example/fencepost/fencepost/connector/SlotConfirmation", name := "idle", desc := "(J)V" } : Jvm.MethodName) prog_17_method_7_code (3 : Nat) (Option.none : Option Jvm.ClassFile.FieldType)]
set_option maxRecDepth 65536 in
theorem codes_eq : words1.filter isCode = codes1 := rfl
theorem w_codes : ∀ c ∈ words1.filter isCode, c.before args0 about1 = true := by
  rw [codes_eq]
  intro c hc
  simp only [codes1, List.mem_cons, List.not_mem_nil, or_false] at hc
  rcases hc with rfl | rfl | rfl | rfl | rfl | rfl | rfl | rfl | rfl | rfl | rfl | rfl | rfl | rfl | rfl | rfl | rfl | rfl | rfl | rfl | rfl | rfl | rfl | rfl
  · exact w_c0
  · exact w_c1
  · exact w_c2
  · exact w_c3
  · exact w_c4
  · exact w_c5
  · exact w_c6
  · exact w_c7
  · exact w_c8
  · exact w_c9
  · exact w_c10
  · exact w_c11
  · exact w_c12
  · exact w_c13
  · exact w_c14
  · exact w_c15
  · exact w_c16
  · exact w_c17
  · exact w_c18
  · exact w_c19
  · exact w_c20
  · exact w_c21
  · exact w_c22
  · exact w_c23
set_option maxRecDepth 65536 in
theorem w_t1 : (words1.take 24).all (fun c => isCode c || c.before args0 about1) = true := by decide +kernel
set_option maxRecDepth 65536 in
theorem w_t2 : ((words1.drop 24).take 24).all (fun c => isCode c || c.before args0 about1) = true := by decide +kernel
set_option maxRecDepth 65536 in
theorem w_t3 : (((words1.drop 24).drop 24).take 24).all (fun c => isCode c || c.before args0 about1) = true := by decide +kernel
set_option maxRecDepth 65536 in
theorem w_t4 : ((((words1.drop 24).drop 24).drop 24).take 24).all (fun c => isCode c || c.before args0 about1) = true := by decide +kernel
set_option maxRecDepth 65536 in
theorem w_t5 : (((((words1.drop 24).drop 24).drop 24).drop 24).take 24).all (fun c => isCode c || c.before args0 about1) = true := by decide +kernel
set_option maxRecDepth 65536 in
theorem w_t6 : (((((words1.drop 24).drop 24).drop 24).drop 24).drop 24).all (fun c => isCode c || c.before args0 about1) = true := by decide +kernel
theorem w_tables : (allAtoms (Jvm.Cond.code x code maxLocals ret :: tables_1)).before args0 about1 = true := by
  rw [allAtoms_all]
  show words1.all (fun c => c.before args0 about1) = true
  refine all_split ?_ w_codes
  rw [← List.take_append_drop 24 words1, List.all_append, w_t1, ← List.take_append_drop 24 (words1.drop 24), List.all_append, w_t2, ← List.take_append_drop 24 ((words1.drop 24).drop 24), List.all_append, w_t3, ← List.take_append_drop 24 (((words1.drop 24).drop 24).drop 24), List.all_append, w_t4, ← List.take_append_drop 24 ((((words1.drop 24).drop 24).drop 24).drop 24), List.all_append, w_t5, w_t6]
  rfl
set_option maxRecDepth 65536 in
theorem w_case : (Jvm.Cond.and given_1 narrow_1).before args0 about1 = true := by decide +kernel
theorem w_applies : (headSpec (Jvm.Cond.code x code maxLocals ret :: tables_1) room_1).applies x e0.platform about1 = true :=
  (Spec.applies_iff w_frames).mpr ⟨w_running, w_runnable, w_alone, w_named, w_hears, w_ripe, w_room, w_tables⟩
theorem atStart : AtStart classFile x code maxLocals ret World_1 tables_1 room_1 Calls_1 rest_1 Pre_1 launch0 p0 e0 about1 theMethod args0 below0 :=
  ⟨lists_1, trivial, launch0.admits_env _ _ _, launch0.least_env, fairChoices_fair.cas, fairChoices_fair.clock, w_frames, w_args, w_heap, w_applies, trivial, trivial, w_case⟩
end start1
theorem witness_1 : WitnessClaimed_1 := ⟨start1.p0, start1.e0, start1.about1, start1.theMethod, start1.args0, start1.below0, start1.atStart⟩
end Jvm.Pilot.@@N@@
